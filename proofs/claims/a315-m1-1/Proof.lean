import JvmDerived
import JvmDerived.Pilot.@@N@@Statement
import JvmDerived.Pilot.@@N@@Code
set_option linter.unusedVariables false
set_option linter.unusedSimpArgs false
namespace Jvm.Wk
open Sem ClassFile Op Lib Jvm.Stand Jvm.Free Jvm.LawKit Jvm.RoadKit
/-! A small logic of walks: the heap above the law's start is a list of records, a walk is a predicate over (records, pc, locals, stack). -/
abbrev Key := String × String × String
abbrev Rec := (String × List Key × List Value) ⊕ (FieldType × List Value)
abbrev obj (C : String) (ks : List Key) (vs : List Value) : Rec := Sum.inl (C, ks, vs)
abbrev arr (t : FieldType) (vs : List Value) : Rec := Sum.inr (t, vs)
abbrev ints (xs : List Int32) : Rec := arr .int (xs.map Value.int)
abbrev longs (xs : List Int64) : Rec := arr .long (xs.map Value.long)
abbrev rf (hB : Heap) (i : Nat) : Value := .ref (hB.size + i)
def kslot (Z : State) (k : Key) : Nat := Jvm.RoadKit.slotOf Z k.1 k.2.1 k.2.2
def OvrT (Z : State) (cA : ClassId) (t : FieldType) : Prop := (∀ C, t = .object C → Ovr Z cA C) ∧ (∀ ty, t = .array ty → OvrA Z cA ty (FieldType.array ty).toString)
def RecAt (Z : State) (h : Heap) (a : Addr) : Rec → Prop
  | .inl (C, ks, vs) => Exa Z h a C ∧ Unt h a ∧ (∀ (i : Nat) (k : Key) (v : Value), ks[i]? = some k → vs[i]? = some v → Fld Z h a k.1 k.2.1 k.2.2 v) ∧ (∀ (i j : Nat) (k k' : Key), ks[i]? = some k → ks[j]? = some k' → i ≠ j → kslot Z k ≠ kslot Z k')
  | .inr (t, vs) => ∃ c : Cell, Arr Z h a c t ∧ c.slots = vs.toArray ∧ c.vm = .none ∧ Exa Z h a ("[" ++ t.toString) ∧ OvrT Z c.cls t ∧ ∀ v ∈ vs, fits t v = true
def Hp (Z : State) (hB h : Heap) (H : List Rec) : Prop := h.size = hB.size + H.length ∧ (∀ (a : Addr) (c : Cell), hB[a]? = some c → h[a]? = some c) ∧ ∀ (i : Nat) (r : Rec), H[i]? = some r → RecAt Z h (hB.size + i) r
section Heaps
variable {Z : State} {hB h h' : Heap} {H : List Rec} {a b : Addr} {r : Rec} {sl : Nat} {v : Value}
theorem RecAt.ext (E : Ext h h') : ∀ {r : Rec}, RecAt Z h a r → RecAt Z h' a r
  | .inl _, F => ⟨F.1.ext E, F.2.1.ext E, fun i k v h1 h2 => (F.2.2.1 i k v h1 h2).ext E, F.2.2.2⟩
  | .inr _, F => by
    obtain ⟨c, h1, h2, h3, h5, h6⟩ := F
    exact ⟨c, h1.ext E, h2, h3, h5.ext E, h6⟩
theorem RecAt.other (W : Wr h h' b sl v) (hne : a ≠ b) : ∀ {r : Rec}, RecAt Z h a r → RecAt Z h' a r
  | .inl _, F => ⟨F.1.wr W, F.2.1.wr W, fun i k v h1 h2 => (F.2.2.1 i k v h1 h2).other W (Or.inl hne), F.2.2.2⟩
  | .inr _, F => by
    obtain ⟨c, h1, h2, h3, h5, h6⟩ := F
    exact ⟨c, h1.other W hne, h2, h3, h5.wr W, h6⟩
theorem RecAt.lt : ∀ {r : Rec}, RecAt Z h a r → a < h.size
  | .inl _, F => F.1.lt
  | .inr _, F => by obtain ⟨c, h1, -⟩ := F; exact h1.lt
theorem Hp.toExt (P : Hp Z hB h H) : Ext hB h := ⟨by rw [P.1]; exact Nat.le_add_right _ _, P.2.1⟩
theorem Hp.start (Z : State) (hB : Heap) : Hp Z hB hB [] := ⟨rfl, fun _ _ q => q, fun i r q => by cases q⟩
theorem Hp.at (P : Hp Z hB h H) {i : Nat} (q : H[i]? = some r) : RecAt Z h (hB.size + i) r := P.2.2 i r q
theorem Hp.setR (P : Hp Z hB h H) {i : Nat} {r r' : Rec} (q : H[i]? = some r) (W : Wr h h' (hB.size + i) sl v) (F : RecAt Z h' (hB.size + i) r') : Hp Z hB h' (H.set i r') := by
  refine ⟨by rw [W.size, P.1, List.length_set], fun a c ha => ?_, fun j r2 hj => ?_⟩
  · obtain ⟨c', e1, -, -, -, e5, -⟩ := wr_at W (P.2.1 a c ha)
    have : a < hB.size := (Array.getElem?_eq_some_iff.mp ha).1
    rw [e1, e5 fun q => absurd this (by rw [q]; exact Nat.not_lt.mpr (Nat.le_add_right _ _))]
  · rw [List.getElem?_set] at hj
    split at hj
    · rename_i e
      subst e
      split at hj
      · cases hj; exact F
      · cases hj
    · rename_i e
      exact (P.2.2 j r2 hj).other W fun q => e (Nat.add_left_cancel q).symm
theorem Hp.wrO (P : Hp Z hB h H) {i j : Nat} {C : String} {ks : List Key} {vs : List Value} {k : Key} (q : H[i]? = some (obj C ks vs)) (hk : ks[j]? = some k) (hj : j < vs.length) (W : Wr h h' (hB.size + i) (kslot Z k) v) : Hp Z hB h' (H.set i (obj C ks (vs.set j v))) := by
  obtain ⟨f1, f2, f3, f4⟩ := P.at q
  refine P.setR q W ⟨f1.wr W, f2.wr W, fun i' k' v' h1 h2 => ?_, f4⟩
  by_cases e : j = i'
  · subst e
    rw [List.getElem?_set_self hj] at h2
    cases h2
    cases hk.symm.trans h1
    exact (f3 j k vs[j] hk (List.getElem?_eq_getElem hj)).same W
  · rw [List.getElem?_set_ne e] at h2
    exact (f3 i' k' v' h1 h2).other W (Or.inr (f4 i' j k' k h1 hk (Ne.symm e)))
theorem Hp.wrA (P : Hp Z hB h H) {i j : Nat} {t : FieldType} {vs : List Value} (q : H[i]? = some (arr t vs)) (hf : fits t v = true) (W : Wr h h' (hB.size + i) j v) : Hp Z hB h' (H.set i (arr t (vs.set j v))) := by
  obtain ⟨c, h1, h2, h3, h5, h6, h7⟩ := P.at q
  refine P.setR q W ⟨c.setSlot j v, h1.same W, ?_, h3, h5.wr W, h6, fun w hw => ?_⟩
  · show c.slots.setIfInBounds j v = _
    rw [h2]; simp
  · rcases List.mem_or_eq_of_mem_set hw with z | z
    · exact h7 w z
    · rw [z]; exact hf
theorem Hp.push (P : Hp Z hB h H) (E : Ext h h') (hs : h'.size ≤ h.size + 1) (F : RecAt Z h' h.size r) : Hp Z hB h' (H ++ [r]) := by
  have hlt : Array.size h < Array.size h' := F.lt
  refine ⟨by rw [List.length_append, List.length_singleton]; have := P.1; omega, fun a c ha => E.2 _ _ (P.2.1 a c ha), fun i r2 hi => ?_⟩
  rw [List.getElem?_append] at hi
  split at hi
  · exact (P.2.2 i r2 hi).ext E
  · rename_i e
    have hl := P.1
    obtain ⟨h1, h2⟩ := List.getElem?_eq_some_iff.mp hi
    simp only [List.length_singleton] at h1
    have e2 : i = H.length := by omega
    subst e2
    simp only [Nat.sub_self, List.getElem_cons_zero] at h2
    subst h2
    rw [← hl]; exact F
theorem Hp.fld (P : Hp Z hB h H) {i j : Nat} {C O n d : String} {ks : List Key} {vs : List Value} (q : H[i]? = some (obj C ks vs)) (hk : ks[j]? = some (O, n, d)) (hv : vs[j]? = some v) : Fld Z h (hB.size + i) O n d v := (P.at q).2.2.1 j _ v hk hv
theorem Hp.exa (P : Hp Z hB h H) {i : Nat} {C : String} {ks : List Key} {vs : List Value} (q : H[i]? = some (obj C ks vs)) : Exa Z h (hB.size + i) C := (P.at q).1
theorem Hp.exaA (P : Hp Z hB h H) {i : Nat} {t : FieldType} {vs : List Value} {C : String} (q : H[i]? = some (arr t vs)) (hC : "[" ++ t.toString = C) : Exa Z h (hB.size + i) C := by
  obtain ⟨c, -, -, -, h5, -⟩ := P.at q
  exact hC ▸ h5
theorem RecAt.congr (e : h'[a]? = h[a]?) : ∀ {r : Rec}, RecAt Z h a r → RecAt Z h' a r
  | .inl _, F => by
    obtain ⟨⟨c1, k1, f1, f2⟩, ⟨c2, g1, g2⟩, F3, F4⟩ := F
    refine ⟨⟨c1, k1, e.trans f1, f2⟩, ⟨c2, e.trans g1, g2⟩, fun i k v h1 h2 => ?_, F4⟩
    obtain ⟨c, cf, kk, i', f, q, r⟩ := F3 i k v h1 h2
    exact ⟨c, cf, kk, i', f, e.trans q, r⟩
  | .inr _, F => by
    obtain ⟨c, ⟨h1, h1'⟩, h2, h3, ⟨c5, k5, h5, h5'⟩, h6⟩ := F
    exact ⟨c, ⟨e.trans h1, h1'⟩, h2, h3, ⟨c5, k5, e.trans h5, h5'⟩, h6⟩
theorem toNat_len {n : Nat} (h : n < 2 ^ 31) : n.toInt32.toNatClampNeg = n ∧ ¬ n.toInt32 < 0 := by
  refine ⟨by simp only [Int32.toNatClampNeg, len_toInt h]; omega, ?_⟩
  rw [Int32.lt_iff_toInt_lt, len_toInt h]; have : (0 : Int32).toInt = 0 := rfl; omega
theorem Hp.arv (P : Hp Z hB h H) {i : Nat} {t : FieldType} {vs : List Value} (q : H[i]? = some (arr t vs)) (hl : vs.length < 2 ^ 31) (d : Value) : ∃ k, Arv Z h (hB.size + i) k t vs.length.toInt32 vs d := by
  obtain ⟨c, h1, h2, h3, h5, h6, h7⟩ := P.at q
  have hs : c.slots.size = vs.length := by rw [h2, List.size_toArray]
  refine ⟨c.cls, c, h1, rfl, by rw [hs, (toNat_len hl).1], (toNat_len hl).2, fun k hk => ?_, fun k hk => ?_⟩
  · rw [hs] at hk
    rw [h2, List.getElem?_toArray, List.getElem?_eq_getElem hk, List.getD_eq_getElem?_getD, List.getElem?_eq_getElem hk]; rfl
  · rw [hs] at hk
    rw [List.getD_eq_getElem?_getD, List.getElem?_eq_getElem hk]; exact h7 _ (List.getElem_mem hk)
theorem Hp.copied (P : Hp Z hB h H) {i : Nat} {t : FieldType} {vs vs' : List Value} {k : ClassId} {d : Value} (q : H[i]? = some (arr t vs)) (hz : h'.size ≤ h.size) (K : Keep h h' [hB.size + i]) (hl : vs.length < 2 ^ 31) (hlen : vs'.length = vs.length) (A : Arv Z h' (hB.size + i) k t vs.length.toInt32 vs' d) : Hp Z hB h' (H.set i (arr t vs')) := by
  refine ⟨by rw [List.length_set, ← P.1]; exact Nat.le_antisymm hz K.1, fun a c ha => ?_, fun j r2 hj => ?_⟩
  · have : a < hB.size := (Array.getElem?_eq_some_iff.mp ha).1
    exact K.2.1 a c (P.2.1 a c ha) (by simp only [List.mem_singleton]; intro e; rw [e] at this; exact absurd this (Nat.not_lt.mpr (Nat.le_add_right _ _)))
  · by_cases e : i = j
    · subst e
      have hi := (List.getElem?_eq_some_iff.mp q).1
      rw [List.getElem?_set_self hi] at hj
      cases hj
      obtain ⟨c, h1, h2, h3, h5, h6, h7⟩ := P.at q
      obtain ⟨c', a1, a2, a3, a4, a5, a6⟩ := A
      obtain ⟨c2, b1, b2, b3, b4⟩ := K.2.2 _ c h1.1
      cases a1.1.symm.trans b1
      have hs : c'.slots.size = vs'.length := by rw [a3, (toNat_len hl).1, hlen]
      refine ⟨c', a1, ?_, b3.trans h3, h5.keep K, b2 ▸ h6, fun v hv => ?_⟩
      · apply Array.ext_getElem?
        intro n
        by_cases hn : n < c'.slots.size
        · rw [a5 n hn, List.getElem?_toArray, List.getD_eq_getElem?_getD, List.getElem?_eq_getElem (hs ▸ hn)]; rfl
        · rw [Array.getElem?_eq_none (Nat.le_of_not_lt hn), List.getElem?_toArray, List.getElem?_eq_none (by omega)]
      · obtain ⟨n, hn, rfl⟩ := List.getElem_of_mem hv
        have := a6 n (by omega)
        rw [List.getD_eq_getElem?_getD, List.getElem?_eq_getElem hn] at this; exact this
    · rw [List.getElem?_set_ne e] at hj
      have R := P.2.2 j r2 hj
      refine R.congr ?_
      obtain ⟨cj, hcj⟩ : ∃ c, h[hB.size + j]? = some c := ⟨_, Array.getElem?_eq_getElem R.lt⟩
      rw [hcj]; exact K.2.1 _ _ hcj (by simp only [List.mem_singleton]; intro q; exact e (Nat.add_left_cancel q).symm)
end Heaps
/-- what an array's place holds; an array with one place set -/
def gI (l : List Int32) (i : Int32) : Option Int32 := if i < 0 then none else l[i.toNatClampNeg]?
def sI (l : List Int32) (i x : Int32) : Option (List Int32) := if i < 0 then none else if i.toNatClampNeg < l.length then some (l.set i.toNatClampNeg x) else none
theorem gI_at {l : List Int32} {i x : Int32} (h : gI l i = some x) : ¬ i < 0 ∧ l[i.toNatClampNeg]? = some x := by
  unfold gI at h; split at h
  · cases h
  · rename_i q; exact ⟨q, h⟩
theorem sI_at {l l' : List Int32} {i x : Int32} (h : sI l i x = some l') : ¬ i < 0 ∧ i.toNatClampNeg < l.length ∧ l' = l.set i.toNatClampNeg x := by
  unfold sI at h; split at h
  · cases h
  · rename_i q; split at h
    · rename_i r; cases h; exact ⟨q, r, rfl⟩
    · cases h
def sJ (l : List Int64) (i : Int32) (x : Int64) : Option (List Int64) := if i < 0 then none else if i.toNatClampNeg < l.length then some (l.set i.toNatClampNeg x) else none
theorem sJ_at {l l' : List Int64} {i : Int32} {x : Int64} (h : sJ l i x = some l') : ¬ i < 0 ∧ i.toNatClampNeg < l.length ∧ l' = l.set i.toNatClampNeg x := by
  unfold sJ at h; split at h
  · cases h
  · rename_i q; split at h
    · rename_i r; cases h; exact ⟨q, r, rfl⟩
    · cases h
/-- one of several rows -/
def gR (l : List (List Int32)) (i : Int32) : Option (List Int32) := if i < 0 then none else l[i.toNatClampNeg]?
theorem gR_at {l : List (List Int32)} {i : Int32} {x : List Int32} (h : gR l i = some x) : ¬ i < 0 ∧ l[i.toNatClampNeg]? = some x := by
  unfold gR at h; split at h
  · cases h
  · rename_i q; exact ⟨q, h⟩
/-! lists of records in parts: F, G, then M -/
theorem getT {F G M : List Rec} {k : Nat} {r : Rec} (h : M[k]? = some r) : (F ++ (G ++ M))[F.length + G.length + k]? = some r := by
  rw [List.getElem?_append_right (by omega), List.getElem?_append_right (by omega)]
  rw [show F.length + G.length + k - F.length - G.length = k from by omega]; exact h
theorem setT {F G M : List Rec} {k : Nat} {r : Rec} : (F ++ (G ++ M)).set (F.length + G.length + k) r = F ++ (G ++ M.set k r) := by
  rw [List.set_append_right _ _ (by omega), List.set_append_right _ _ (by omega)]
  rw [show F.length + G.length + k - F.length - G.length = k from by omega]
theorem pushT {F G M : List Rec} {r : Rec} : F ++ (G ++ M) ++ [r] = F ++ (G ++ (M ++ [r])) := by simp [List.append_assoc]
theorem lenT {F G M : List Rec} : (F ++ (G ++ M)).length = F.length + G.length + M.length := by simp [Nat.add_assoc]
theorem getE {M K : List Rec} {e : Rec} {n : Nat} (h : M.length = n) : (M ++ (K ++ [e]))[K.length + n]? = some e := by
  subst h; rw [List.getElem?_append_right (by omega), show K.length + M.length - M.length = K.length from by omega]; simp
theorem setTE {F G M K : List Rec} {e r : Rec} {n : Nat} (h : M.length = n) : (F ++ (G ++ (M ++ (K ++ [e])))).set (F.length + G.length + (K.length + n)) r = F ++ (G ++ (M ++ (K ++ [r]))) := by
  subst h
  rw [setT, List.set_append_right _ _ (by omega), show K.length + M.length - M.length = K.length from by omega]; simp
theorem pushTK {F G M K : List Rec} {r : Rec} : F ++ (G ++ (M ++ K)) ++ [r] = F ++ (G ++ (M ++ (K ++ [r]))) := by simp [List.append_assoc]
theorem setSelf {H : List Rec} {i : Nat} {r : Rec} (h : H[i]? = some r) : H.set i r = H := by
  obtain ⟨h1, h2⟩ := List.getElem?_eq_some_iff.mp h
  rw [← h2]; exact List.set_getElem_self h1
section Walk
/-- the walk comes to its return -/
def Done (Z : State) (hB : Heap) (R : Room) (Q : Option Value → List Rec → Prop) (p : Program) (e : Env) (s : State) (below : List Frame) (S0 : State) : Prop :=
  ∃ U o, Steps p.tables e below S0 U ∧ U.status = .running ∧ Ended U below o ∧ ∃ v L H', o = .returned v ∧ Q v H' ∧ Hp Z hB U.heap H' ∧ Fr hB.size L ∧ FrameEnd s o U L R.cells R.slots
def Cx (Z : State) (hB : Heap) (y : MethodName) (bytes : ByteArray) (ml : Nat) (ret : Option FieldType) (n1 : Nat) (p : Program) (s : State) (m : MethodId) (meth : Method) (c : Code) : Prop :=
  p.tables.exec = Jvm.exec ∧ Z.Warmed39 s.vm ∧ c.code = bytes ∧ c.maxLocals = ml ∧ s.vm.findClass y.cls = some m.cls ∧ meth.name = y.name ∧ meth.sig.returnType = ret ∧ meth.locks = false ∧ s.heap.size = hB.size + n1
def WP (l : Launch) (Z : State) (hB : Heap) (y : MethodName) (bytes : ByteArray) (ml : Nat) (ret : Option FieldType) (R : Room) (n1 : Nat) (Q : Option Value → List Rec → Prop) (sl : Nat) (H : List Rec) (pc : Nat) (Ls : Array Slot) (st : List Value) : Prop :=
  ∀ p e s m args below meth c, Cx Z hB y bytes ml ret n1 p s m meth c → ∀ T locs cells slots, Stand p l e R s m args below meth c T locs cells slots → Fr hB.size locs → Hp Z hB T.heap H → slots ≤ sl →
    Done Z hB R Q p e s below (T.setTop (mkF m pc Ls st))
/-- a method's contract at given arguments and records -/
def Ctr (l : Launch) (Z : State) (hB : Heap) (y : MethodName) (bytes : ByteArray) (ml : Nat) (ret : Option FieldType) (ws : List Jvm.Cond) (rm : Room) (as' : Array Value) (H : List Rec) (Q : Option Value → List Rec → Prop) : Prop :=
  MetFree l y (head1 (Jvm.Cond.code y bytes ml ret :: ws) rm) (fun a U => a = as' ∧ Z.Warmed39 U.vm ∧ Hp Z hB U.heap H) (fun _ _ _ _ _ => True)
    (fun _ U o U' => ∃ v L H', o = .returned v ∧ Q v H' ∧ Hp Z hB U'.heap H' ∧ Fr hB.size L ∧ FrameEnd U o U' L rm.cells rm.slots)
variable {l : Launch} {Z : State} {hB : Heap} {y : MethodName} {bytes : ByteArray} {ml : Nat} {ret : Option FieldType} {R : Room} {n1 : Nat} {Q : Option Value → List Rec → Prop} {sl : Nat} {H H' : List Rec} {pc pc' : Nat} {Ls Ls' : Array Slot} {st st' rest : List Value} {a0 : Array Value}
theorem exact' {p : Program} {l : Launch} {e : Env} {R : Room} {s : State} {m : MethodId} {args : Array Value} {below : List Frame} {meth : Method} {c : Code} {T : State} {locs : List Loc} {cells slots : Nat} (X : Stand p l e R s m args below meth c T locs cells slots) {k : Nat} (hk : T.heap.size ≤ s.heap.size + k) : Stand p l e R s m args below meth c T locs k slots :=
  { X with same := ⟨X.same.1, X.same.2.1, hk, X.same.2.2.2⟩ }
theorem ctr {ws : List Jvm.Cond} {as' : Array Value} (hpn : plainFor y = true) (ef : ∀ m, entryFrame m as' ml = mkF m 0 Ls []) (h : WP l Z hB y bytes ml ret R H.length Q 0 H 0 Ls []) : Ctr l Z hB y bytes ml ret ws R as' H Q := by
  refine MetFree.of_bodySF hpn hisR ?_
  intro p e s m args below meth c s₁ Bd hml0 hP hK
  obtain ⟨rfl, hZ, hh⟩ := hP
  have X0 := Stand.of_body Bd
  have e0 : s₁.heap = s.heap := by rw [Bd.state]; rfl
  obtain ⟨U, o, st, h1, h2, v, L, H', ho, hq, hp, hf, hfe⟩ := h p e s m _ below meth c ⟨Bd.exec, hZ, Bd.bytes, hml0, findClass_of_methodNamed Bd.named, (name_of_methodNamed Bd.named Bd.method).1, Bd.returns, Bd.notSynchronized, hh.1⟩ s₁ [] 0 0 X0 (Fr.nil _) (by rw [e0]; exact hh) (Nat.zero_le _)
  exact ⟨U, o, castTop (ef m) st, h1, h2, v, L, H', ho, hq, hp, hf, hfe⟩
/-- a step that leaves the state as it is, but for the frame -/
theorem WP.step (k : ∀ (p : Program) (e : Env) (s : State) (m : MethodId) (args : Array Value) (below : List Frame) (meth : Method) (c : Code) (T : State) (locs : List Loc) (cells slots : Nat), Cx Z hB y bytes ml ret n1 p s m meth c → Stand p l e R s m args below meth c T locs cells slots → Hp Z hB T.heap H → ∀ target, Steps p.tables e below (T.setTop (mkF m pc' Ls' st')) target → Steps p.tables e below (T.setTop (mkF m pc Ls st)) target)
    (hr : WP l Z hB y bytes ml ret R n1 Q sl H pc' Ls' st') : WP l Z hB y bytes ml ret R n1 Q sl H pc Ls st := by
  intro p e s m args below meth c C T locs cells slots X N P hs
  obtain ⟨U, o, h1, h2⟩ := hr p e s m args below meth c C T locs cells slots X N P hs
  exact ⟨U, o, k p e s m args below meth c T locs cells slots C X P U h1, h2⟩
/-- a step that warms the tables -/
theorem WP.stepT (k : ∀ (p : Program) (e : Env) (s : State) (m : MethodId) (args : Array Value) (below : List Frame) (meth : Method) (c : Code) (T : State) (locs : List Loc) (cells slots : Nat), Cx Z hB y bytes ml ret n1 p s m meth c → Stand p l e R s m args below meth c T locs cells slots → Hp Z hB T.heap H → ∃ T', Stand p l e R s m args below meth c T' locs cells slots ∧ T'.heap = T.heap ∧ ∀ target, Steps p.tables e below (T'.setTop (mkF m pc' Ls' st')) target → Steps p.tables e below (T.setTop (mkF m pc Ls st)) target)
    (hr : WP l Z hB y bytes ml ret R n1 Q sl H pc' Ls' st') : WP l Z hB y bytes ml ret R n1 Q sl H pc Ls st := by
  intro p e s m args below meth c C T locs cells slots X N P hs
  obtain ⟨T', X', e', k'⟩ := k p e s m args below meth c T locs cells slots C X P
  obtain ⟨U, o, h1, h2⟩ := hr p e s m args below meth c C T' locs cells slots X' N (by rw [e']; exact P) hs
  exact ⟨U, o, k' U h1, h2⟩
/-- a step that moves the heap -/
theorem WP.stepH {sl' : Nat} (k : ∀ (p : Program) (e : Env) (s : State) (m : MethodId) (args : Array Value) (below : List Frame) (meth : Method) (c : Code) (T : State) (locs : List Loc) (cells slots : Nat), Cx Z hB y bytes ml ret n1 p s m meth c → Stand p l e R s m args below meth c T locs cells slots → T.heap.size = s.heap.size + cells → Fr hB.size locs → Hp Z hB T.heap H → slots ≤ sl →
      ∃ T' locs' cells' slots', Stand p l e R s m args below meth c T' locs' cells' slots' ∧ Fr hB.size locs' ∧ Hp Z hB T'.heap H' ∧ slots' ≤ sl' ∧ ∀ target, Steps p.tables e below (T'.setTop (mkF m pc' Ls' st')) target → Steps p.tables e below (T.setTop (mkF m pc Ls st)) target)
    (hr : WP l Z hB y bytes ml ret R n1 Q sl' H' pc' Ls' st') : WP l Z hB y bytes ml ret R n1 Q sl H pc Ls st := by
  intro p e s m args below meth c C T locs cells slots X N P hs
  have hz : T.heap.size = s.heap.size + (T.heap.size - s.heap.size) := by have := X.same.2.1; have : s.heap.size ≤ T.heap.size := this; omega
  obtain ⟨T', locs', cells', slots', X', N', P', hs', k'⟩ := k p e s m args below meth c T locs _ slots C (exact' X (Nat.le_of_eq hz)) hz N P hs
  obtain ⟨U, o, h1, h2⟩ := hr p e s m args below meth c C T' locs' cells' slots' X' N' P' hs'
  exact ⟨U, o, k' U h1, h2⟩
theorem WP.heap (e : H = H') (h : WP l Z hB y bytes ml ret R n1 Q sl H' pc Ls st) : WP l Z hB y bytes ml ret R n1 Q sl H pc Ls st := e ▸ h
theorem WP.monoQ {Q' : Option Value → List Rec → Prop} (hq : ∀ v H, Q v H → Q' v H) (h : WP l Z hB y bytes ml ret R n1 Q sl H pc Ls st) : WP l Z hB y bytes ml ret R n1 Q' sl H pc Ls st := by
  intro p e s m args below meth c C T locs cells slots X N P hs
  obtain ⟨U, o, h1, h2, h3, v, L, H', h4, h5, h6⟩ := h p e s m args below meth c C T locs cells slots X N P hs
  exact ⟨U, o, h1, h2, h3, v, L, H', h4, hq _ _ h5, h6⟩
theorem WP.mono {sl' : Nat} (hs : sl ≤ sl') (h : WP l Z hB y bytes ml ret R n1 Q sl' H pc Ls st) : WP l Z hB y bytes ml ret R n1 Q sl H pc Ls st := by
  intro p e s m args below meth c C T locs cells slots X N P hs'
  exact h p e s m args below meth c C T locs cells slots X N P (Nat.le_trans hs' hs)
theorem aloadN {k : Fin 4} {v : Value} (hd : decode bytes pc = .ok (.aload_n k, 1)) (hl : Ls[k.val]? = some (.val v)) (hv : v.isRef = true) (hp : pc + 1 = pc') (hr : WP l Z hB y bytes ml ret R n1 Q sl H pc' Ls (v :: st)) : WP l Z hB y bytes ml ret R n1 Q sl H pc Ls (st) := by
  subst hp
  exact WP.step (fun p e s m args below meth c T locs cells slots C X _ tgt h => XS.aloadN X.here C.1 rfl (hb C.2.2.1 hd) hl hv h) hr
theorem aload {k : Nat} {v : Value} (hd : decode bytes pc = .ok (.aload k, 2)) (hl : Ls[k]? = some (.val v)) (hv : v.isRef = true) (hp : pc + 2 = pc') (hr : WP l Z hB y bytes ml ret R n1 Q sl H pc' Ls (v :: st)) : WP l Z hB y bytes ml ret R n1 Q sl H pc Ls (st) := by
  subst hp
  exact WP.step (fun p e s m args below meth c T locs cells slots C X _ tgt h => XS.aload X.here C.1 rfl (hb C.2.2.1 hd) hl hv h) hr
theorem iloadN {k : Fin 4} {x : Int32} (hd : decode bytes pc = .ok (.iload_n k, 1)) (hl : Ls[k.val]? = some (.val (.int x))) (hp : pc + 1 = pc') (hr : WP l Z hB y bytes ml ret R n1 Q sl H pc' Ls (.int x :: st)) : WP l Z hB y bytes ml ret R n1 Q sl H pc Ls (st) := by
  subst hp
  exact WP.step (fun p e s m args below meth c T locs cells slots C X _ tgt h => XS.iloadN X.here C.1 rfl (hb C.2.2.1 hd) hl h) hr
theorem iload {k : Nat} {x : Int32} (hd : decode bytes pc = .ok (.iload k, 2)) (hl : Ls[k]? = some (.val (.int x))) (hp : pc + 2 = pc') (hr : WP l Z hB y bytes ml ret R n1 Q sl H pc' Ls (.int x :: st)) : WP l Z hB y bytes ml ret R n1 Q sl H pc Ls (st) := by
  subst hp
  exact WP.step (fun p e s m args below meth c T locs cells slots C X _ tgt h => XS.iload X.here C.1 rfl (hb C.2.2.1 hd) hl h) hr
theorem lloadN {k : Fin 4} {x : Int64} (hd : decode bytes pc = .ok (.lload_n k, 1)) (hl : Ls[k.val]? = some (.val (.long x))) (hp : pc + 1 = pc') (hr : WP l Z hB y bytes ml ret R n1 Q sl H pc' Ls (.long x :: st)) : WP l Z hB y bytes ml ret R n1 Q sl H pc Ls (st) := by
  subst hp
  exact WP.step (fun p e s m args below meth c T locs cells slots C X _ tgt h => XT.lloadN X.here C.1 rfl (hb C.2.2.1 hd) hl h) hr
theorem lload {k : Nat} {x : Int64} (hd : decode bytes pc = .ok (.lload k, 2)) (hl : Ls[k]? = some (.val (.long x))) (hp : pc + 2 = pc') (hr : WP l Z hB y bytes ml ret R n1 Q sl H pc' Ls (.long x :: st)) : WP l Z hB y bytes ml ret R n1 Q sl H pc Ls (st) := by
  subst hp
  exact WP.step (fun p e s m args below meth c T locs cells slots C X _ tgt h => XT.lload X.here C.1 rfl (hb C.2.2.1 hd) hl h) hr
theorem iconst {i : Int} (x : Int32) (hd : decode bytes pc = .ok (.iconst i, 1)) (hv : Int32.ofInt i = x) (hp : pc + 1 = pc') (hr : WP l Z hB y bytes ml ret R n1 Q sl H pc' Ls (.int x :: st)) : WP l Z hB y bytes ml ret R n1 Q sl H pc Ls (st) := by
  subst hp
  exact WP.step (fun p e s m args below meth c T locs cells slots C X _ tgt h => XS.iconst X.here C.1 rfl (hb C.2.2.1 hd) (hv ▸ h)) hr
theorem bipush {i : Int} (x : Int32) (hd : decode bytes pc = .ok (.bipush i, 2)) (hv : (Int8.ofInt i).toInt32 = x) (hp : pc + 2 = pc') (hr : WP l Z hB y bytes ml ret R n1 Q sl H pc' Ls (.int x :: st)) : WP l Z hB y bytes ml ret R n1 Q sl H pc Ls (st) := by
  subst hp
  exact WP.step (fun p e s m args below meth c T locs cells slots C X _ tgt h => XS.bipush X.here C.1 rfl (hb C.2.2.1 hd) (hv ▸ h)) hr
theorem sipush {i : Int} (x : Int32) (hd : decode bytes pc = .ok (.sipush i, 3)) (hv : (Int16.ofInt i).toInt32 = x) (hp : pc + 3 = pc') (hr : WP l Z hB y bytes ml ret R n1 Q sl H pc' Ls (.int x :: st)) : WP l Z hB y bytes ml ret R n1 Q sl H pc Ls (st) := by
  subst hp
  exact WP.step (fun p e s m args below meth c T locs cells slots C X _ tgt h => XT.sipushV X.here C.1 rfl x (hb C.2.2.1 hd) hv h) hr
theorem lconst {k : Fin 2} (x : Int64) (hd : decode bytes pc = .ok (.lconst k, 1)) (hv : Int64.ofNat k = x) (hp : pc + 1 = pc') (hr : WP l Z hB y bytes ml ret R n1 Q sl H pc' Ls (.long x :: st)) : WP l Z hB y bytes ml ret R n1 Q sl H pc Ls (st) := by
  subst hp
  exact WP.step (fun p e s m args below meth c T locs cells slots C X _ tgt h => XT.lconst X.here C.1 rfl (hb C.2.2.1 hd) (hv ▸ h)) hr
theorem aconstNull  (hd : decode bytes pc = .ok (.aconst_null, 1)) (hp : pc + 1 = pc') (hr : WP l Z hB y bytes ml ret R n1 Q sl H pc' Ls (.null :: st)) : WP l Z hB y bytes ml ret R n1 Q sl H pc Ls (st) := by
  subst hp
  exact WP.step (fun p e s m args below meth c T locs cells slots C X _ tgt h => XS.aconstNull X.here C.1 rfl (hb C.2.2.1 hd) h) hr
theorem iadd {x z : Int32} (hd : decode bytes pc = .ok (.iadd, 1)) (hp : pc + 1 = pc') (hr : WP l Z hB y bytes ml ret R n1 Q sl H pc' Ls (.int (x + z) :: st)) : WP l Z hB y bytes ml ret R n1 Q sl H pc Ls (.int z :: .int x :: st) := by
  subst hp
  exact WP.step (fun p e s m args below meth c T locs cells slots C X _ tgt h => XS.iadd X.here C.1 rfl (hb C.2.2.1 hd) rfl h) hr
theorem isub {x z : Int32} (hd : decode bytes pc = .ok (.isub, 1)) (hp : pc + 1 = pc') (hr : WP l Z hB y bytes ml ret R n1 Q sl H pc' Ls (.int (x - z) :: st)) : WP l Z hB y bytes ml ret R n1 Q sl H pc Ls (.int z :: .int x :: st) := by
  subst hp
  exact WP.step (fun p e s m args below meth c T locs cells slots C X _ tgt h => XS.isub X.here C.1 rfl (hb C.2.2.1 hd) rfl h) hr
theorem iand {x z : Int32} (hd : decode bytes pc = .ok (.iand, 1)) (hp : pc + 1 = pc') (hr : WP l Z hB y bytes ml ret R n1 Q sl H pc' Ls (.int (x &&& z) :: st)) : WP l Z hB y bytes ml ret R n1 Q sl H pc Ls (.int z :: .int x :: st) := by
  subst hp
  exact WP.step (fun p e s m args below meth c T locs cells slots C X _ tgt h => XS.iand X.here C.1 rfl (hb C.2.2.1 hd) rfl h) hr
theorem imul {x z : Int32} (hd : decode bytes pc = .ok (.imul, 1)) (hp : pc + 1 = pc') (hr : WP l Z hB y bytes ml ret R n1 Q sl H pc' Ls (.int (x * z) :: st)) : WP l Z hB y bytes ml ret R n1 Q sl H pc Ls (.int z :: .int x :: st) := by
  subst hp
  exact WP.step (fun p e s m args below meth c T locs cells slots C X _ tgt h => XS.imul X.here C.1 rfl (hb C.2.2.1 hd) rfl h) hr
theorem ixor {x z : Int32} (hd : decode bytes pc = .ok (.ixor, 1)) (hp : pc + 1 = pc') (hr : WP l Z hB y bytes ml ret R n1 Q sl H pc' Ls (.int (x ^^^ z) :: st)) : WP l Z hB y bytes ml ret R n1 Q sl H pc Ls (.int z :: .int x :: st) := by
  subst hp
  exact WP.step (fun p e s m args below meth c T locs cells slots C X _ tgt h => XT.ixor X.here C.1 rfl (hb C.2.2.1 hd) rfl h) hr
theorem ior {x z : Int32} (hd : decode bytes pc = .ok (.ior, 1)) (hp : pc + 1 = pc') (hr : WP l Z hB y bytes ml ret R n1 Q sl H pc' Ls (.int (x ||| z) :: st)) : WP l Z hB y bytes ml ret R n1 Q sl H pc Ls (.int z :: .int x :: st) := by
  subst hp
  exact WP.step (fun p e s m args below meth c T locs cells slots C X _ tgt h => XT.ior X.here C.1 rfl (hb C.2.2.1 hd) rfl h) hr
theorem ishl {x z : Int32} (hd : decode bytes pc = .ok (.ishl, 1)) (hp : pc + 1 = pc') (hr : WP l Z hB y bytes ml ret R n1 Q sl H pc' Ls (.int (x <<< (z &&& 31)) :: st)) : WP l Z hB y bytes ml ret R n1 Q sl H pc Ls (.int z :: .int x :: st) := by
  subst hp
  exact WP.step (fun p e s m args below meth c T locs cells slots C X _ tgt h => XT.ishl X.here C.1 rfl (hb C.2.2.1 hd) rfl h) hr
theorem ishr {x z : Int32} (hd : decode bytes pc = .ok (.ishr, 1)) (hp : pc + 1 = pc') (hr : WP l Z hB y bytes ml ret R n1 Q sl H pc' Ls (.int (x >>> (z &&& 31)) :: st)) : WP l Z hB y bytes ml ret R n1 Q sl H pc Ls (.int z :: .int x :: st) := by
  subst hp
  exact WP.step (fun p e s m args below meth c T locs cells slots C X _ tgt h => XT.ishr X.here C.1 rfl (hb C.2.2.1 hd) rfl h) hr
theorem iushr {x z : Int32} (hd : decode bytes pc = .ok (.iushr, 1)) (hp : pc + 1 = pc') (hr : WP l Z hB y bytes ml ret R n1 Q sl H pc' Ls (.int (XT.ushr x z) :: st)) : WP l Z hB y bytes ml ret R n1 Q sl H pc Ls (.int z :: .int x :: st) := by
  subst hp
  exact WP.step (fun p e s m args below meth c T locs cells slots C X _ tgt h => XT.iushr X.here C.1 rfl (hb C.2.2.1 hd) rfl h) hr
theorem ladd {x z : Int64} (hd : decode bytes pc = .ok (.ladd, 1)) (hp : pc + 1 = pc') (hr : WP l Z hB y bytes ml ret R n1 Q sl H pc' Ls (.long (x + z) :: st)) : WP l Z hB y bytes ml ret R n1 Q sl H pc Ls (.long z :: .long x :: st) := by
  subst hp
  exact WP.step (fun p e s m args below meth c T locs cells slots C X _ tgt h => XT.ladd X.here C.1 rfl (hb C.2.2.1 hd) rfl h) hr
theorem lsub {x z : Int64} (hd : decode bytes pc = .ok (.lsub, 1)) (hp : pc + 1 = pc') (hr : WP l Z hB y bytes ml ret R n1 Q sl H pc' Ls (.long (x - z) :: st)) : WP l Z hB y bytes ml ret R n1 Q sl H pc Ls (.long z :: .long x :: st) := by
  subst hp
  exact WP.step (fun p e s m args below meth c T locs cells slots C X _ tgt h => XT.lsub X.here C.1 rfl (hb C.2.2.1 hd) rfl h) hr
theorem land {x z : Int64} (hd : decode bytes pc = .ok (.land, 1)) (hp : pc + 1 = pc') (hr : WP l Z hB y bytes ml ret R n1 Q sl H pc' Ls (.long (x &&& z) :: st)) : WP l Z hB y bytes ml ret R n1 Q sl H pc Ls (.long z :: .long x :: st) := by
  subst hp
  exact WP.step (fun p e s m args below meth c T locs cells slots C X _ tgt h => XT.land X.here C.1 rfl (hb C.2.2.1 hd) rfl h) hr
theorem lmul {x z : Int64} (hd : decode bytes pc = .ok (.lmul, 1)) (hp : pc + 1 = pc') (hr : WP l Z hB y bytes ml ret R n1 Q sl H pc' Ls (.long (x * z) :: st)) : WP l Z hB y bytes ml ret R n1 Q sl H pc Ls (.long z :: .long x :: st) := by
  subst hp
  exact WP.step (fun p e s m args below meth c T locs cells slots C X _ tgt h => XT.lmul X.here C.1 rfl (hb C.2.2.1 hd) rfl h) hr
theorem lushr {x : Int64} {z : Int32} (hd : decode bytes pc = .ok (.lushr, 1)) (hp : pc + 1 = pc') (hr : WP l Z hB y bytes ml ret R n1 Q sl H pc' Ls (.long (XT.ushrL x z) :: st)) : WP l Z hB y bytes ml ret R n1 Q sl H pc Ls (.int z :: .long x :: st) := by
  subst hp
  exact WP.step (fun p e s m args below meth c T locs cells slots C X _ tgt h => XT.lushr X.here C.1 rfl (hb C.2.2.1 hd) rfl h) hr
theorem lcmp {x z : Int64} (hd : decode bytes pc = .ok (.lcmp, 1)) (hp : pc + 1 = pc') (hr : WP l Z hB y bytes ml ret R n1 Q sl H pc' Ls (.int (XT.cmpL x z) :: st)) : WP l Z hB y bytes ml ret R n1 Q sl H pc Ls (.long z :: .long x :: st) := by
  subst hp
  exact WP.step (fun p e s m args below meth c T locs cells slots C X _ tgt h => XT.lcmp X.here C.1 rfl (hb C.2.2.1 hd) rfl h) hr
theorem idiv {x z : Int32} (hd : decode bytes pc = .ok (.idiv, 1)) (hz : z ≠ 0) (hp : pc + 1 = pc') (hr : WP l Z hB y bytes ml ret R n1 Q sl H pc' Ls (.int (x / z) :: st)) : WP l Z hB y bytes ml ret R n1 Q sl H pc Ls (.int z :: .int x :: st) := by
  subst hp
  exact WP.step (fun p e s m args below meth c T locs cells slots C X _ tgt h => XS.idiv X.here C.1 rfl (hb C.2.2.1 hd) rfl hz h) hr
theorem irem {x z : Int32} (hd : decode bytes pc = .ok (.irem, 1)) (hz : z ≠ 0) (hp : pc + 1 = pc') (hr : WP l Z hB y bytes ml ret R n1 Q sl H pc' Ls (.int (x % z) :: st)) : WP l Z hB y bytes ml ret R n1 Q sl H pc Ls (.int z :: .int x :: st) := by
  subst hp
  exact WP.step (fun p e s m args below meth c T locs cells slots C X _ tgt h => iremM X C.1 rfl (hb C.2.2.1 hd) rfl hz h) hr
theorem ineg {x : Int32} (hd : decode bytes pc = .ok (.ineg, 1)) (hp : pc + 1 = pc') (hr : WP l Z hB y bytes ml ret R n1 Q sl H pc' Ls (.int (-x) :: st)) : WP l Z hB y bytes ml ret R n1 Q sl H pc Ls (.int x :: st) := by
  subst hp
  exact WP.step (fun p e s m args below meth c T locs cells slots C X _ tgt h => XS.ineg X.here C.1 rfl (hb C.2.2.1 hd) rfl h) hr
theorem lneg {x : Int64} (hd : decode bytes pc = .ok (.lneg, 1)) (hp : pc + 1 = pc') (hr : WP l Z hB y bytes ml ret R n1 Q sl H pc' Ls (.long (-x) :: st)) : WP l Z hB y bytes ml ret R n1 Q sl H pc Ls (.long x :: st) := by
  subst hp
  exact WP.step (fun p e s m args below meth c T locs cells slots C X _ tgt h => XT.lneg X.here C.1 rfl (hb C.2.2.1 hd) rfl h) hr
theorem i2l {x : Int32} (hd : decode bytes pc = .ok (.i2l, 1)) (hp : pc + 1 = pc') (hr : WP l Z hB y bytes ml ret R n1 Q sl H pc' Ls (.long x.toInt64 :: st)) : WP l Z hB y bytes ml ret R n1 Q sl H pc Ls (.int x :: st) := by
  subst hp
  exact WP.step (fun p e s m args below meth c T locs cells slots C X _ tgt h => XT.i2l X.here C.1 rfl (hb C.2.2.1 hd) rfl h) hr
theorem l2i {x : Int64} (hd : decode bytes pc = .ok (.l2i, 1)) (hp : pc + 1 = pc') (hr : WP l Z hB y bytes ml ret R n1 Q sl H pc' Ls (.int x.toInt32 :: st)) : WP l Z hB y bytes ml ret R n1 Q sl H pc Ls (.long x :: st) := by
  subst hp
  exact WP.step (fun p e s m args below meth c T locs cells slots C X _ tgt h => XT.l2i X.here C.1 rfl (hb C.2.2.1 hd) rfl h) hr
theorem i2c {x : Int32} (hd : decode bytes pc = .ok (.i2c, 1)) (hp : pc + 1 = pc') (hr : WP l Z hB y bytes ml ret R n1 Q sl H pc' Ls (.int x.toUInt32.toUInt16.toUInt32.toInt32 :: st)) : WP l Z hB y bytes ml ret R n1 Q sl H pc Ls (.int x :: st) := by
  subst hp
  exact WP.step (fun p e s m args below meth c T locs cells slots C X _ tgt h => XT.i2c X.here C.1 rfl (hb C.2.2.1 hd) rfl h) hr
theorem i2b {x : Int32} (hd : decode bytes pc = .ok (.i2b, 1)) (hp : pc + 1 = pc') (hr : WP l Z hB y bytes ml ret R n1 Q sl H pc' Ls (.int x.toInt8.toInt32 :: st)) : WP l Z hB y bytes ml ret R n1 Q sl H pc Ls (.int x :: st) := by
  subst hp
  exact WP.step (fun p e s m args below meth c T locs cells slots C X _ tgt h => XT.i2b X.here C.1 rfl (hb C.2.2.1 hd) rfl h) hr
theorem dup {v : Value} (hd : decode bytes pc = .ok (.dup, 1)) (hc : v.category = 1) (hp : pc + 1 = pc') (hr : WP l Z hB y bytes ml ret R n1 Q sl H pc' Ls (v :: v :: st)) : WP l Z hB y bytes ml ret R n1 Q sl H pc Ls (v :: st) := by
  subst hp
  exact WP.step (fun p e s m args below meth c T locs cells slots C X _ tgt h => XS.dup X.here C.1 rfl (hb C.2.2.1 hd) rfl hc h) hr
theorem dupX1 {v w : Value} (hd : decode bytes pc = .ok (.dup_x1, 1)) (hc : v.category = 1) (hc2 : w.category = 1) (hp : pc + 1 = pc') (hr : WP l Z hB y bytes ml ret R n1 Q sl H pc' Ls (v :: w :: v :: st)) : WP l Z hB y bytes ml ret R n1 Q sl H pc Ls (v :: w :: st) := by
  subst hp
  exact WP.step (fun p e s m args below meth c T locs cells slots C X _ tgt h => XT.dupX1 X.here C.1 rfl (hb C.2.2.1 hd) rfl hc hc2 h) hr
theorem dup2 {v w : Value} (hd : decode bytes pc = .ok (.dup2, 1)) (hc : v.category = 1) (hc2 : w.category = 1) (hp : pc + 1 = pc') (hr : WP l Z hB y bytes ml ret R n1 Q sl H pc' Ls (v :: w :: v :: w :: st)) : WP l Z hB y bytes ml ret R n1 Q sl H pc Ls (v :: w :: st) := by
  subst hp
  exact WP.step (fun p e s m args below meth c T locs cells slots C X _ tgt h => XT.dup2 X.here C.1 rfl (hb C.2.2.1 hd) rfl hc hc2 h) hr
theorem popV {v : Value} (hd : decode bytes pc = .ok (.pop, 1)) (hc : v.category = 1) (hp : pc + 1 = pc') (hr : WP l Z hB y bytes ml ret R n1 Q sl H pc' Ls (st)) : WP l Z hB y bytes ml ret R n1 Q sl H pc Ls (v :: st) := by
  subst hp
  exact WP.step (fun p e s m args below meth c T locs cells slots C X _ tgt h => XT.pop X.here C.1 rfl (hb C.2.2.1 hd) rfl hc h) hr
theorem istoreN {k : Fin 4} {x : Int32} (hd : decode bytes pc = .ok (.istore_n k, 1)) (hl : storeLocals Ls k.val (.int x) = some Ls') (hp : pc + 1 = pc') (hr : WP l Z hB y bytes ml ret R n1 Q sl H pc' Ls' (st)) : WP l Z hB y bytes ml ret R n1 Q sl H pc Ls (.int x :: st) := by
  subst hp
  exact WP.step (fun p e s m args below meth c T locs cells slots C X _ tgt h => XS.istoreN X.here C.1 rfl (hb C.2.2.1 hd) rfl hl h) hr
theorem istore {k : Nat} {x : Int32} (hd : decode bytes pc = .ok (.istore k, 2)) (hl : storeLocals Ls k (.int x) = some Ls') (hp : pc + 2 = pc') (hr : WP l Z hB y bytes ml ret R n1 Q sl H pc' Ls' (st)) : WP l Z hB y bytes ml ret R n1 Q sl H pc Ls (.int x :: st) := by
  subst hp
  exact WP.step (fun p e s m args below meth c T locs cells slots C X _ tgt h => XS.istore X.here C.1 rfl (hb C.2.2.1 hd) rfl hl h) hr
theorem lstoreN {k : Fin 4} {x : Int64} (hd : decode bytes pc = .ok (.lstore_n k, 1)) (hl : storeLocals Ls k.val (.long x) = some Ls') (hp : pc + 1 = pc') (hr : WP l Z hB y bytes ml ret R n1 Q sl H pc' Ls' (st)) : WP l Z hB y bytes ml ret R n1 Q sl H pc Ls (.long x :: st) := by
  subst hp
  exact WP.step (fun p e s m args below meth c T locs cells slots C X _ tgt h => XT.lstoreN X.here C.1 rfl (hb C.2.2.1 hd) rfl hl h) hr
theorem lstore {k : Nat} {x : Int64} (hd : decode bytes pc = .ok (.lstore k, 2)) (hl : storeLocals Ls k (.long x) = some Ls') (hp : pc + 2 = pc') (hr : WP l Z hB y bytes ml ret R n1 Q sl H pc' Ls' (st)) : WP l Z hB y bytes ml ret R n1 Q sl H pc Ls (.long x :: st) := by
  subst hp
  exact WP.step (fun p e s m args below meth c T locs cells slots C X _ tgt h => XT.lstore X.here C.1 rfl (hb C.2.2.1 hd) rfl hl h) hr
theorem astoreN {k : Fin 4} {v : Value} (hd : decode bytes pc = .ok (.astore_n k, 1)) (hv : v.isRef = true) (hl : storeLocals Ls k.val v = some Ls') (hp : pc + 1 = pc') (hr : WP l Z hB y bytes ml ret R n1 Q sl H pc' Ls' (st)) : WP l Z hB y bytes ml ret R n1 Q sl H pc Ls (v :: st) := by
  subst hp
  exact WP.step (fun p e s m args below meth c T locs cells slots C X _ tgt h => XS.astoreN X.here C.1 rfl (hb C.2.2.1 hd) rfl hv hl h) hr
theorem astore {k : Nat} {v : Value} (hd : decode bytes pc = .ok (.astore k, 2)) (hv : v.isRef = true) (hl : storeLocals Ls k v = some Ls') (hp : pc + 2 = pc') (hr : WP l Z hB y bytes ml ret R n1 Q sl H pc' Ls' (st)) : WP l Z hB y bytes ml ret R n1 Q sl H pc Ls (v :: st) := by
  subst hp
  exact WP.step (fun p e s m args below meth c T locs cells slots C X _ tgt h => XS.astore X.here C.1 rfl (hb C.2.2.1 hd) rfl hv hl h) hr
theorem iinc {k : Nat} {cst : Int} {x : Int32} (z : Int32) (hd : decode bytes pc = .ok (.iinc k cst, 3)) (hl : Ls[k]? = some (.val (.int x))) (hz : x + Int32.ofInt cst = z) (hl' : storeLocals Ls k (.int z) = some Ls') (hp : pc + 3 = pc') (hr : WP l Z hB y bytes ml ret R n1 Q sl H pc' Ls' (st)) : WP l Z hB y bytes ml ret R n1 Q sl H pc Ls (st) := by
  subst hp
  exact WP.step (fun p e s m args below meth c T locs cells slots C X _ tgt h => XS.iinc X.here C.1 rfl (hb C.2.2.1 hd) hl (hz ▸ hl') h) hr
theorem goTo  {o : Int} (hd : decode bytes pc = .ok (.goto o, 3)) (ho : 0 ≤ (pc : Int) + o) (hp : ((pc : Int) + o).toNat = pc') (hr : WP l Z hB y bytes ml ret R n1 Q sl H pc' Ls st) : WP l Z hB y bytes ml ret R n1 Q sl H pc Ls (st) :=
  WP.step (fun p e s m args below meth c T locs cells slots C X _ tgt h => XS.goto X.here C.1 rfl rfl (hb C.2.2.1 hd) ho hp h) hr
theorem ifY {cd : ClassFile.Cond} {x : Int32} {o : Int} (hd : decode bytes pc = .ok (.ifCond cd o, 3)) (hc : ifCond.holds cd x = true) (ho : 0 ≤ (pc : Int) + o) (hp : ((pc : Int) + o).toNat = pc') (hr : WP l Z hB y bytes ml ret R n1 Q sl H pc' Ls st) : WP l Z hB y bytes ml ret R n1 Q sl H pc Ls (.int x :: st) :=
  WP.step (fun p e s m args below meth c T locs cells slots C X _ tgt h => XS.ifYes X.here C.1 rfl rfl (hb C.2.2.1 hd) rfl hc ho hp h) hr
theorem ifN {cd : ClassFile.Cond} {x : Int32} {o : Int} (hd : decode bytes pc = .ok (.ifCond cd o, 3)) (hc : ifCond.holds cd x = false) (hp : pc + 3 = pc') (hr : WP l Z hB y bytes ml ret R n1 Q sl H pc' Ls st) : WP l Z hB y bytes ml ret R n1 Q sl H pc Ls (.int x :: st) := by
  subst hp
  exact WP.step (fun p e s m args below meth c T locs cells slots C X _ tgt h => XS.ifNo X.here C.1 rfl (hb C.2.2.1 hd) rfl hc h) hr
theorem icY {cd : ClassFile.Cond} {x z : Int32} {o : Int} (hd : decode bytes pc = .ok (.if_icmp cd o, 3)) (hc : if_icmp.holds cd x z = true) (ho : 0 ≤ (pc : Int) + o) (hp : ((pc : Int) + o).toNat = pc') (hr : WP l Z hB y bytes ml ret R n1 Q sl H pc' Ls st) : WP l Z hB y bytes ml ret R n1 Q sl H pc Ls (.int z :: .int x :: st) :=
  WP.step (fun p e s m args below meth c T locs cells slots C X _ tgt h => XS.icmpYes X.here C.1 rfl rfl (hb C.2.2.1 hd) rfl hc ho hp h) hr
theorem icN {cd : ClassFile.Cond} {x z : Int32} {o : Int} (hd : decode bytes pc = .ok (.if_icmp cd o, 3)) (hc : if_icmp.holds cd x z = false) (hp : pc + 3 = pc') (hr : WP l Z hB y bytes ml ret R n1 Q sl H pc' Ls st) : WP l Z hB y bytes ml ret R n1 Q sl H pc Ls (.int z :: .int x :: st) := by
  subst hp
  exact WP.step (fun p e s m args below meth c T locs cells slots C X _ tgt h => XS.icmpNo X.here C.1 rfl (hb C.2.2.1 hd) rfl hc h) hr
theorem nullY  {o : Int} (hd : decode bytes pc = .ok (.ifnull o, 3)) (ho : 0 ≤ (pc : Int) + o) (hp : ((pc : Int) + o).toNat = pc') (hr : WP l Z hB y bytes ml ret R n1 Q sl H pc' Ls st) : WP l Z hB y bytes ml ret R n1 Q sl H pc Ls (.null :: st) :=
  WP.step (fun p e s m args below meth c T locs cells slots C X _ tgt h => XS.ifnullYes X.here C.1 rfl rfl (hb C.2.2.1 hd) rfl ho hp h) hr
theorem nullN {b : Addr} {o : Int} (hd : decode bytes pc = .ok (.ifnull o, 3)) (hp : pc + 3 = pc') (hr : WP l Z hB y bytes ml ret R n1 Q sl H pc' Ls st) : WP l Z hB y bytes ml ret R n1 Q sl H pc Ls (.ref b :: st) := by
  subst hp
  exact WP.step (fun p e s m args below meth c T locs cells slots C X _ tgt h => XS.ifnullNo X.here C.1 rfl (hb C.2.2.1 hd) rfl h) hr
theorem nonnullY {b : Addr} {o : Int} (hd : decode bytes pc = .ok (.ifnonnull o, 3)) (ho : 0 ≤ (pc : Int) + o) (hp : ((pc : Int) + o).toNat = pc') (hr : WP l Z hB y bytes ml ret R n1 Q sl H pc' Ls st) : WP l Z hB y bytes ml ret R n1 Q sl H pc Ls (.ref b :: st) :=
  WP.step (fun p e s m args below meth c T locs cells slots C X _ tgt h => XT.ifnonnullYes X.here C.1 rfl rfl (hb C.2.2.1 hd) rfl ho hp h) hr
theorem nonnullN  {o : Int} (hd : decode bytes pc = .ok (.ifnonnull o, 3)) (hp : pc + 3 = pc') (hr : WP l Z hB y bytes ml ret R n1 Q sl H pc' Ls st) : WP l Z hB y bytes ml ret R n1 Q sl H pc Ls (.null :: st) := by
  subst hp
  exact WP.step (fun p e s m args below meth c T locs cells slots C X _ tgt h => XT.ifnonnullNo X.here C.1 rfl (hb C.2.2.1 hd) rfl h) hr
theorem acY {cd : ClassFile.ACond} {v w : Value} {o : Int} (hd : decode bytes pc = .ok (.if_acmp cd o, 3)) (hv : v.isRef = true) (hw : w.isRef = true) (hc : XT.acmp cd v w = true) (ho : 0 ≤ (pc : Int) + o) (hp : ((pc : Int) + o).toNat = pc') (hr : WP l Z hB y bytes ml ret R n1 Q sl H pc' Ls st) : WP l Z hB y bytes ml ret R n1 Q sl H pc Ls (w :: v :: st) :=
  WP.step (fun p e s m args below meth c T locs cells slots C X _ tgt h => XT.acmpYes X.here C.1 rfl rfl (hb C.2.2.1 hd) rfl hv hw hc ho hp h) hr
theorem acN {cd : ClassFile.ACond} {v w : Value} {o : Int} (hd : decode bytes pc = .ok (.if_acmp cd o, 3)) (hv : v.isRef = true) (hw : w.isRef = true) (hc : XT.acmp cd v w = false) (hp : pc + 3 = pc') (hr : WP l Z hB y bytes ml ret R n1 Q sl H pc' Ls st) : WP l Z hB y bytes ml ret R n1 Q sl H pc Ls (w :: v :: st) := by
  subst hp
  exact WP.step (fun p e s m args below meth c T locs cells slots C X _ tgt h => XT.acmpNo X.here C.1 rfl (hb C.2.2.1 hd) rfl hv hw hc h) hr
theorem tswIn {dflt low high : Int} {offs : Array Int} {len : Nat} {o : Int} {i : Int32} (hd : decode bytes pc = .ok (.tableswitch dflt low high offs, len)) (hin : ¬ (i.toInt < low ∨ i.toInt > high)) (hoff : offs[(i.toInt - low).toNat]? = some o) (ho : 0 ≤ (pc : Int) + o) (hp : ((pc : Int) + o).toNat = pc') (hr : WP l Z hB y bytes ml ret R n1 Q sl H pc' Ls st) : WP l Z hB y bytes ml ret R n1 Q sl H pc Ls (.int i :: st) :=
  WP.step (fun p e s m args below meth c T locs cells slots C X _ tgt h => XS.tswIn X.here C.1 rfl rfl (hb C.2.2.1 hd) rfl hin hoff ho hp h) hr
theorem dupX2 {u v w : Value} (hd : decode bytes pc = .ok (.dup_x2, 1)) (h1 : u.category = 1) (h2 : v.category = 1) (h3 : w.category = 1) (hp : pc + 1 = pc') (hr : WP l Z hB y bytes ml ret R n1 Q sl H pc' Ls (u :: v :: w :: u :: st)) : WP l Z hB y bytes ml ret R n1 Q sl H pc Ls (u :: v :: w :: st) := by
  subst hp
  refine WP.step (fun p e s m args below meth c T locs cells slots C X _ tgt h => ?_) hr
  have hx := C.1
  have hd' := (hb C.2.2.1 hd)
  jvm_step X.here [X.here.top, hx, hd', h1, h2, h3]
  exact h
theorem pop2L {x : Int64} (hd : decode bytes pc = .ok (.pop2, 1)) (hp : pc + 1 = pc') (hr : WP l Z hB y bytes ml ret R n1 Q sl H pc' Ls st) : WP l Z hB y bytes ml ret R n1 Q sl H pc Ls (.long x :: st) := by
  subst hp
  refine WP.step (fun p e s m args below meth c T locs cells slots C X _ tgt h => ?_) hr
  have hx := C.1
  have hd' := (hb C.2.2.1 hd)
  jvm_step X.here [X.here.top, hx, hd', Value.category]
  exact h
theorem getFl {a : Addr} {R0 O n d host : String} {v : Value} {index : Nat} (hd : decode bytes pc = .ok (.getfield index, 3)) (w : (Jvm.Cond.fieldLink y.cls index R0 n d).before a0 Z = true ∨ (Jvm.Cond.fieldLinkNest y.cls index R0 n d host).before a0 Z = true) (via : Via Z R0 O n d) (F : ∀ h, Hp Z hB h H → Fld Z h a O n d v) (hp : pc + 3 = pc') (hr : WP l Z hB y bytes ml ret R n1 Q sl H pc' Ls (v :: st)) : WP l Z hB y bytes ml ret R n1 Q sl H pc Ls (.ref a :: st) := by
  subst hp
  exact WP.stepT (fun p e s m args below meth c T locs cells slots C X P => getF X C.1 C.2.1 C.2.2.2.2.1 w via rfl (F _ P) (g := mkF m pc Ls (.ref a :: st)) rfl rfl (hb C.2.2.1 hd)) hr
theorem getF0 {O n d : String} {v : Value} {index i j : Nat} {C : String} {ks : List Key} {vs : List Value} (hd : decode bytes pc = .ok (.getfield index, 3)) (w : (Jvm.Cond.fieldLink y.cls index O n d).before a0 Z = true) (hi : H[i]? = some (obj C ks vs)) (hk : ks[j]? = some (O, n, d)) (hv : vs[j]? = some v) (hp : pc + 3 = pc') (hr : WP l Z hB y bytes ml ret R n1 Q sl H pc' Ls (v :: st)) : WP l Z hB y bytes ml ret R n1 Q sl H pc Ls (rf hB i :: st) :=
  getFl (host := "") hd (Or.inl w) Via.refl (fun _ P => P.fld hi hk hv) hp hr
theorem getFold {a : Addr} {O n d : String} {v : Value} {index : Nat} (hd : decode bytes pc = .ok (.getfield index, 3)) (w : (Jvm.Cond.fieldLink y.cls index O n d).before a0 Z = true) (F : Fld Z hB a O n d v) (hp : pc + 3 = pc') (hr : WP l Z hB y bytes ml ret R n1 Q sl H pc' Ls (v :: st)) : WP l Z hB y bytes ml ret R n1 Q sl H pc Ls (.ref a :: st) :=
  getFl (host := "") hd (Or.inl w) Via.refl (fun _ P => F.ext P.toExt) hp hr
theorem getSt {O n d : String} {v : Value} {index : Nat} (hd : decode bytes pc = .ok (.getstatic index, 3)) (w : (Jvm.Cond.fieldLink y.cls index O n d).before a0 Z = true) (F : Sta Z hB O n d v) (hp : pc + 3 = pc') (hr : WP l Z hB y bytes ml ret R n1 Q sl H pc' Ls (v :: st)) : WP l Z hB y bytes ml ret R n1 Q sl H pc Ls st := by
  subst hp
  exact WP.stepT (fun p e s m args below meth c T locs cells slots C X P => getS2 X C.1 C.2.1 C.2.2.2.2.1 (host := "") (Or.inl w) Via.refl rfl (F.ext P.toExt) (g := mkF m pc Ls st) rfl (hb C.2.2.1 hd)) hr
theorem putF0 {O n d : String} {v : Value} {ty : FieldType} {index i j kk : Nat} {C : String} {ks : List Key} {vs : List Value} (hd : decode bytes pc = .ok (.putfield index, 3)) (w : (Jvm.Cond.fieldLink y.cls index O n d).before a0 Z = true) (hi : H[i]? = some (obj C ks vs)) (hk : ks[j]? = some (O, n, d)) (hj : j < vs.length)
    (L : (Jvm.Cond.lays C O n d).before a0 Z = true ∨ ((Jvm.Cond.laysFinal C O n d).before a0 Z = true ∧ y.cls = O ∧ y.name = "<init>")) (wi : (Jvm.Cond.instantiable C kk).before a0 Z = true) (hty : parseFieldDescriptor d = some ty) (hn : narrow ty v = v) (hf : fits ty v = true) (hH : H.set i (obj C ks (vs.set j v)) = H') (hp : pc + 3 = pc') (hr : WP l Z hB y bytes ml ret R n1 Q sl H' pc' Ls st) : WP l Z hB y bytes ml ret R n1 Q sl H pc Ls (v :: rf hB i :: st) := by
  subst hp; subst hH
  refine WP.stepH (fun p e s m args below meth c T locs cells slots C X hz N P hs => ?_) hr
  obtain ⟨T', h', X', e', W, k⟩ := putF X C.1 C.2.1 C.2.2.2.2.1 (host := "") (Or.inl w) Via.refl rfl (P.fld hi hk (List.getElem?_eq_getElem hj)) (P.exa hi) (L.imp id fun q => ⟨q.1, q.2.1, C.2.2.2.2.2.1.trans q.2.2⟩) wi hty hn hf (g := mkF m pc Ls (v :: rf hB i :: st)) rfl rfl (hb C.2.2.1 hd)
  exact ⟨T', _, _, _, X', Fr.snoc X' N (Nat.le_add_right _ _), by rw [e']; exact P.wrO hi hk hj W, hs, k⟩
theorem getF1 {R0 O n d : String} {v : Value} {index i j : Nat} {C : String} {ks : List Key} {vs : List Value} (hd : decode bytes pc = .ok (.getfield index, 3)) (w : (Jvm.Cond.fieldLink y.cls index R0 n d).before a0 Z = true) (ws : (Jvm.Cond.sameField R0 O n d).before a0 Z = true) (hi : H[i]? = some (obj C ks vs)) (hk : ks[j]? = some (O, n, d)) (hv : vs[j]? = some v) (hp : pc + 3 = pc') (hr : WP l Z hB y bytes ml ret R n1 Q sl H pc' Ls (v :: st)) : WP l Z hB y bytes ml ret R n1 Q sl H pc Ls (rf hB i :: st) :=
  getFl (host := "") hd (Or.inl w) (Via.of ws) (fun _ P => P.fld hi hk hv) hp hr
theorem putF1 {R0 O n d : String} {v : Value} {ty : FieldType} {index i j kk : Nat} {C : String} {ks : List Key} {vs : List Value} (hd : decode bytes pc = .ok (.putfield index, 3)) (w : (Jvm.Cond.fieldLink y.cls index R0 n d).before a0 Z = true) (ws : (Jvm.Cond.sameField R0 O n d).before a0 Z = true) (hi : H[i]? = some (obj C ks vs)) (hk : ks[j]? = some (O, n, d)) (hj : j < vs.length)
    (L : (Jvm.Cond.lays C O n d).before a0 Z = true ∨ ((Jvm.Cond.laysFinal C O n d).before a0 Z = true ∧ y.cls = O ∧ y.name = "<init>")) (wi : (Jvm.Cond.instantiable C kk).before a0 Z = true) (hty : parseFieldDescriptor d = some ty) (hn : narrow ty v = v) (hf : fits ty v = true) (hH : H.set i (obj C ks (vs.set j v)) = H') (hp : pc + 3 = pc') (hr : WP l Z hB y bytes ml ret R n1 Q sl H' pc' Ls st) : WP l Z hB y bytes ml ret R n1 Q sl H pc Ls (v :: rf hB i :: st) := by
  subst hp; subst hH
  refine WP.stepH (fun p e s m args below meth c T locs cells slots C X hz N P hs => ?_) hr
  obtain ⟨T', h', X', e', W, k⟩ := putF X C.1 C.2.1 C.2.2.2.2.1 (host := "") (Or.inl w) (Via.of ws) rfl (P.fld hi hk (List.getElem?_eq_getElem hj)) (P.exa hi) (L.imp id fun q => ⟨q.1, q.2.1, C.2.2.2.2.2.1.trans q.2.2⟩) wi hty hn hf (g := mkF m pc Ls (v :: rf hB i :: st)) rfl rfl (hb C.2.2.1 hd)
  exact ⟨T', _, _, _, X', Fr.snoc X' N (Nat.le_add_right _ _), by rw [e']; exact P.wrO hi hk hj W, hs, k⟩
theorem initObj {i' : Addr} {index : Nat} (hd : decode bytes pc = .ok (.invokespecial index, 3)) (w1 : (Jvm.Cond.methodLink y.cls index Lib.objectInit).before a0 Z = true) (w2 : (Jvm.Cond.instanceMethod Lib.objectInit).before a0 Z = true) (w3 : (Jvm.Cond.code Lib.objectInit ⟨#[0xb1]⟩ 1 none).before a0 Z = true) (hml : Ls.size = ml) (hf : 1 ≤ R.frames) (hl : (st.map fun v => v.category).sum + 12 ≤ R.locals) (hp : pc + 3 = pc') (hr : WP l Z hB y bytes ml ret R n1 Q sl H pc' Ls st) : WP l Z hB y bytes ml ret R n1 Q sl H pc Ls (.ref i' :: st) := by
  subst hp
  exact WP.stepT (fun p e s m args below meth c T locs cells slots C X P => initO X C.1 C.2.1 C.2.2.2.2.1 w1 w2 w3 rfl (g := mkF m pc Ls (.ref i' :: st)) rfl (hml.trans C.2.2.2.1.symm) rfl (hb C.2.2.1 hd) hf (W := (st.map fun v => v.category).sum) (by show 2 * 0 + _ ≤ _; omega) hl) hr
theorem newObj {C : String} {index n : Nat} {ks : List Key} {vs : List Value} (hd : decode bytes pc = .ok (.new index, 3)) (w : (Jvm.Cond.classLink y.cls index C).before a0 Z = true) (wi : (Jvm.Cond.instantiable C n).before a0 Z = true) (wz : (Jvm.Cond.initialized C).before a0 Z = true)
    (hlaid : ∀ (i : Nat) (k : Key) (v : Value), ks[i]? = some k → vs[i]? = some v → Laid Z a0 C k.1 k.2.1 k.2.2 ∧ ∃ ty, parseFieldDescriptor k.2.2 = some ty ∧ v = defaultValue ty) (hdist : ∀ (i j : Nat) (k k' : Key), ks[i]? = some k → ks[j]? = some k' → i ≠ j → kslot Z k ≠ kslot Z k')
    (hc : H.length + 1 ≤ n1 + R.cells) (hsl : sl + n ≤ R.slots) (hH : H ++ [obj C ks vs] = H') (hlen : H.length = i) (hp : pc + 3 = pc') (hr : WP l Z hB y bytes ml ret R n1 Q (sl + n) H' pc' Ls (rf hB i :: st)) : WP l Z hB y bytes ml ret R n1 Q sl H pc Ls st := by
  subst hp; subst hH; subst hlen
  refine WP.stepH (fun p e s m args below meth c T locs cells slots Cx X hz N P hs => ?_) hr
  have hsz := Cx.2.2.2.2.2.2.2.2
  have hp1 := P.1
  obtain ⟨T', h', X', e', E, A, D, U, k⟩ := newO X Cx.1 Cx.2.1 Cx.2.2.2.2.1 w wi wz rfl (g := mkF m pc Ls st) rfl (hb Cx.2.2.1 hd) (by omega) (by omega)
  subst e'
  have hle := X'.heapSize
  refine ⟨T', _, _, _, X', N, P.push E (by omega) ⟨A, U, fun i k v h1 h2 => ?_, hdist⟩, by omega, by rw [show rf hB H.length = .ref T.heap.size from by show Value.ref _ = _; rw [hp1]]; exact k⟩
  obtain ⟨q1, ty, q2, rfl⟩ := hlaid i k v h1 h2
  exact D q1 q2
theorem newArr {aty : ArrayType} {i : Nat} {n : Int32} {nn : Nat} (hd : decode bytes pc = .ok (.newarray aty, 2)) (w : (Jvm.Cond.arrayClass (newarray.typeOf aty)).before a0 Z = true) (hn : ¬ n < 0) (hnn : n.toNatClampNeg = nn) (hb8 : nn * 8 ≤ 536870912) (hdf : fits (newarray.typeOf aty) (defaultValue (newarray.typeOf aty)) = true) (hnr : (∀ C, newarray.typeOf aty ≠ .object C) ∧ ∀ t, newarray.typeOf aty ≠ .array t)
    (hc : H.length + 1 ≤ n1 + R.cells) (hsl : sl + nn ≤ R.slots) (hH : H ++ [arr (newarray.typeOf aty) (List.replicate nn (defaultValue (newarray.typeOf aty)))] = H') (hlen : H.length = i) (hp : pc + 2 = pc') (hr : WP l Z hB y bytes ml ret R n1 Q (sl + nn) H' pc' Ls (rf hB i :: st)) : WP l Z hB y bytes ml ret R n1 Q sl H pc Ls (.int n :: st) := by
  subst hp; subst hH; subst hlen; subst hnn
  refine WP.stepH (fun p e s m args below meth c T locs cells slots Cx X hz N P hs => ?_) hr
  have hsz := Cx.2.2.2.2.2.2.2.2
  have hp1 := P.1
  obtain ⟨T', h', cA, X', e', E, A, Ex, k⟩ := newPE X Cx.1 Cx.2.1 w rfl (g := mkF m pc Ls (.int n :: st)) rfl (hb Cx.2.2.1 hd) rfl hn (cap := n.toNatClampNeg) (Nat.le_refl _) hb8 (by omega) (by omega) rfl
  subst e'
  have hle := X'.heapSize
  refine ⟨T', _, _, _, X', N, P.push E (by omega) ⟨_, A, by simp [newA], rfl, Ex, ⟨fun C q => absurd q (hnr.1 C), fun t q => absurd q (hnr.2 t)⟩, fun v hv => by rw [List.eq_of_mem_replicate hv]; exact hdf⟩, by omega, by rw [show rf hB H.length = .ref T.heap.size from by show Value.ref _ = _; rw [hp1]]; exact k⟩
theorem newRef {C : String} {index i : Nat} {n : Int32} {nn : Nat} (hd : decode bytes pc = .ok (.anewarray index, 3)) (w1 : (Jvm.Cond.classLink y.cls index C).before a0 Z = true) (w2 : (Jvm.Cond.arrayOver (.object C)).before a0 Z = true) (hn : ¬ n < 0) (hnn : n.toNatClampNeg = nn) (hb8 : nn * 8 ≤ 536870912)
    (hc : H.length + 1 ≤ n1 + R.cells) (hsl : sl + nn ≤ R.slots) (hH : H ++ [arr (.object C) (List.replicate nn .null)] = H') (hlen : H.length = i) (hp : pc + 3 = pc') (hr : WP l Z hB y bytes ml ret R n1 Q (sl + nn) H' pc' Ls (rf hB i :: st)) : WP l Z hB y bytes ml ret R n1 Q sl H pc Ls (.int n :: st) := by
  subst hp; subst hH; subst hlen; subst hnn
  refine WP.stepH (fun p e s m args below meth c T locs cells slots Cx X hz N P hs => ?_) hr
  have hsz := Cx.2.2.2.2.2.2.2.2
  have hp1 := P.1
  obtain ⟨T', h', cA, X', e', E, A, Ex, O, k⟩ := newRE X Cx.1 Cx.2.1 Cx.2.2.2.2.1 w1 w2 rfl (g := mkF m pc Ls (.int n :: st)) rfl (hb Cx.2.2.1 hd) rfl hn (cap := n.toNatClampNeg) (Nat.le_refl _) hb8 (by omega) (by omega) rfl
  subst e'
  have hle := X'.heapSize
  refine ⟨T', _, _, _, X', N, P.push E (by omega) ⟨_, A, by simp [newA, defaultValue], rfl, Ex, ⟨fun C' q => (by cases q; exact O), fun t q => (by cases q)⟩, fun v hv => by rw [List.eq_of_mem_replicate hv]; rfl⟩, by omega, by rw [show rf hB H.length = .ref T.heap.size from by show Value.ref _ = _; rw [hp1]]; exact k⟩
theorem newRefA {ty : FieldType} {C : String} {index i : Nat} {n : Int32} {nn : Nat} (hd : decode bytes pc = .ok (.anewarray index, 3)) (hC : (FieldType.array ty).toString = C) (w1 : (Jvm.Cond.classLink y.cls index C).before a0 Z = true) (w2 : (Jvm.Cond.arrayOver (.array ty)).before a0 Z = true) (hn : ¬ n < 0) (hnn : n.toNatClampNeg = nn) (hb8 : nn * 8 ≤ 536870912)
    (hc : H.length + 1 ≤ n1 + R.cells) (hsl : sl + nn ≤ R.slots) (hH : H ++ [arr (.array ty) (List.replicate nn .null)] = H') (hlen : H.length = i) (hp : pc + 3 = pc') (hr : WP l Z hB y bytes ml ret R n1 Q (sl + nn) H' pc' Ls (rf hB i :: st)) : WP l Z hB y bytes ml ret R n1 Q sl H pc Ls (.int n :: st) := by
  subst hp; subst hH; subst hlen; subst hnn; subst hC
  refine WP.stepH (fun p e s m args below meth c T locs cells slots Cx X hz N P hs => ?_) hr
  have hsz := Cx.2.2.2.2.2.2.2.2
  have hp1 := P.1
  obtain ⟨T', h', cA, X', e', E, A, Ex, O, k⟩ := newRA X Cx.1 Cx.2.1 Cx.2.2.2.2.1 rfl w1 w2 rfl (g := mkF m pc Ls (.int n :: st)) rfl (hb Cx.2.2.1 hd) rfl hn (cap := n.toNatClampNeg) (Nat.le_refl _) hb8 (by omega) (by omega) rfl
  subst e'
  have hle := X'.heapSize
  refine ⟨T', _, _, _, X', N, P.push E (by omega) ⟨_, A, by simp [newA, defaultValue], rfl, Ex, ⟨fun C' q => (by cases q), fun t q => (by cases q; exact O)⟩, fun v hv => by rw [List.eq_of_mem_replicate hv]; rfl⟩, by omega, by rw [show rf hB H.length = .ref T.heap.size from by show Value.ref _ = _; rw [hp1]]; exact k⟩
theorem inb {c : Cell} {vs : List Value} {j : Int32} {v : Value} (hc : c.slots = vs.toArray) (h0 : ¬ j < 0) (hv : vs[j.toNatClampNeg]? = some v) : ¬ (j < 0 ∨ c.slots.size ≤ j.toNatClampNeg) ∧ c.slots[j.toNatClampNeg]? = some v := by
  have := (List.getElem?_eq_some_iff.mp hv).1
  refine ⟨fun q => q.elim h0 fun z => ?_, by rw [hc]; simpa using hv⟩
  rw [hc, List.size_toArray] at z; omega
theorem arrLen {i : Nat} {t : FieldType} {vs : List Value} {z : Int32} (hd : decode bytes pc = .ok (.arraylength, 1)) (hi : H[i]? = some (arr t vs)) (hz : vs.length.toInt32 = z) (hp : pc + 1 = pc') (hr : WP l Z hB y bytes ml ret R n1 Q sl H pc' Ls (.int z :: st)) : WP l Z hB y bytes ml ret R n1 Q sl H pc Ls (rf hB i :: st) := by
  subst hp
  refine WP.step (fun p e s m args below meth c T locs cells slots C X P tgt h => ?_) hr
  obtain ⟨cl, h1, h2, -⟩ := P.at hi
  exact X.arraylength C.1 h1.1 (State.isArrayOf_alike C.2.1.alike h1.2.1) (g := mkF m pc Ls (rf hB i :: st)) rfl rfl (hb C.2.2.1 hd) _ (by rw [h2, List.size_toArray, hz]; exact h)
theorem arrLenOld {a : Addr} {t : FieldType} {cl : Cell} {z : Int32} (hd : decode bytes pc = .ok (.arraylength, 1)) (A : Arr Z hB a cl t) (hz : cl.slots.size.toInt32 = z) (hp : pc + 1 = pc') (hr : WP l Z hB y bytes ml ret R n1 Q sl H pc' Ls (.int z :: st)) : WP l Z hB y bytes ml ret R n1 Q sl H pc Ls (.ref a :: st) := by
  subst hp
  refine WP.step (fun p e s m args below meth c T locs cells slots C X P tgt h => ?_) hr
  have h1 := A.ext P.toExt
  exact X.arraylength C.1 h1.1 (State.isArrayOf_alike C.2.1.alike h1.2.1) (g := mkF m pc Ls (.ref a :: st)) rfl rfl (hb C.2.2.1 hd) _ (by rw [hz]; exact h)
theorem iaload {i : Nat} {vs : List Value} {j : Int32} {v : Value} {jn : Nat} (hd : decode bytes pc = .ok (.iaload, 1)) (hi : H[i]? = some (arr .int vs)) (h0 : ¬ j < 0) (hjn : j.toNatClampNeg = jn) (hv : vs[jn]? = some v) (hp : pc + 1 = pc') (hr : WP l Z hB y bytes ml ret R n1 Q sl H pc' Ls (v :: st)) : WP l Z hB y bytes ml ret R n1 Q sl H pc Ls (.int j :: rf hB i :: st) := by
  subst hp; subst hjn
  refine WP.step (fun p e s m args below meth c T locs cells slots C X P tgt h => ?_) hr
  obtain ⟨cl, h1, h2, -⟩ := P.at hi
  exact X.iaload C.1 h1.1 (State.isArrayOf_alike C.2.1.alike h1.2.1) h1.2.2 (inb h2 h0 hv).1 (inb h2 h0 hv).2 (g := mkF m pc Ls (.int j :: rf hB i :: st)) rfl rfl (hb C.2.2.1 hd) _ h
theorem laload {i : Nat} {vs : List Value} {j : Int32} {v : Value} {jn : Nat} (hd : decode bytes pc = .ok (.laload, 1)) (hi : H[i]? = some (arr .long vs)) (h0 : ¬ j < 0) (hjn : j.toNatClampNeg = jn) (hv : vs[jn]? = some v) (hp : pc + 1 = pc') (hr : WP l Z hB y bytes ml ret R n1 Q sl H pc' Ls (v :: st)) : WP l Z hB y bytes ml ret R n1 Q sl H pc Ls (.int j :: rf hB i :: st) := by
  subst hp; subst hjn
  refine WP.step (fun p e s m args below meth c T locs cells slots C X P tgt h => ?_) hr
  obtain ⟨cl, h1, h2, -⟩ := P.at hi
  exact X.laload C.1 h1.1 (State.isArrayOf_alike C.2.1.alike h1.2.1) h1.2.2 (inb h2 h0 hv).1 (inb h2 h0 hv).2 (g := mkF m pc Ls (.int j :: rf hB i :: st)) rfl rfl (hb C.2.2.1 hd) _ h
theorem caload {i : Nat} {vs : List Value} {j : Int32} {v : Value} {jn : Nat} (hd : decode bytes pc = .ok (.caload, 1)) (hi : H[i]? = some (arr .char vs)) (h0 : ¬ j < 0) (hjn : j.toNatClampNeg = jn) (hv : vs[jn]? = some v) (hp : pc + 1 = pc') (hr : WP l Z hB y bytes ml ret R n1 Q sl H pc' Ls (v :: st)) : WP l Z hB y bytes ml ret R n1 Q sl H pc Ls (.int j :: rf hB i :: st) := by
  subst hp; subst hjn
  refine WP.step (fun p e s m args below meth c T locs cells slots C X P tgt h => ?_) hr
  obtain ⟨cl, h1, h2, -⟩ := P.at hi
  exact X.caload C.1 h1.1 (State.isArrayOf_alike C.2.1.alike h1.2.1) h1.2.2 (inb h2 h0 hv).1 (inb h2 h0 hv).2 (g := mkF m pc Ls (.int j :: rf hB i :: st)) rfl rfl (hb C.2.2.1 hd) _ h
theorem baload {i : Nat} {vs : List Value} {j : Int32} {v : Value} {jn : Nat} (hd : decode bytes pc = .ok (.baload, 1)) (hi : H[i]? = some (arr .byte vs)) (h0 : ¬ j < 0) (hjn : j.toNatClampNeg = jn) (hv : vs[jn]? = some v) (hp : pc + 1 = pc') (hr : WP l Z hB y bytes ml ret R n1 Q sl H pc' Ls (v :: st)) : WP l Z hB y bytes ml ret R n1 Q sl H pc Ls (.int j :: rf hB i :: st) := by
  subst hp; subst hjn
  refine WP.step (fun p e s m args below meth c T locs cells slots C X P tgt h => ?_) hr
  obtain ⟨cl, h1, h2, -⟩ := P.at hi
  exact X.baloadBytes C.1 h1.1 (State.isArrayOf_alike C.2.1.alike h1.2.1) h1.2.2 (inb h2 h0 hv).1 (inb h2 h0 hv).2 (g := mkF m pc Ls (.int j :: rf hB i :: st)) rfl rfl (hb C.2.2.1 hd) _ h
theorem zaload {i : Nat} {vs : List Value} {j : Int32} {v : Value} {jn : Nat} (hd : decode bytes pc = .ok (.baload, 1)) (hi : H[i]? = some (arr .boolean vs)) (h0 : ¬ j < 0) (hjn : j.toNatClampNeg = jn) (hv : vs[jn]? = some v) (hp : pc + 1 = pc') (hr : WP l Z hB y bytes ml ret R n1 Q sl H pc' Ls (v :: st)) : WP l Z hB y bytes ml ret R n1 Q sl H pc Ls (.int j :: rf hB i :: st) := by
  subst hp; subst hjn
  refine WP.step (fun p e s m args below meth c T locs cells slots C X P tgt h => ?_) hr
  obtain ⟨cl, h1, h2, -⟩ := P.at hi
  exact X.baloadBooleans C.1 h1.1 (State.isArrayOf_alike C.2.1.alike h1.2.1) h1.2.2 (inb h2 h0 hv).1 (inb h2 h0 hv).2 (g := mkF m pc Ls (.int j :: rf hB i :: st)) rfl rfl (hb C.2.2.1 hd) _ h
theorem aaload {i : Nat} {t : FieldType} {vs : List Value} {j : Int32} {v : Value} {jn : Nat} (hd : decode bytes pc = .ok (.aaload, 1)) (hi : H[i]? = some (arr t vs)) (ht : t.isReference = true) (h0 : ¬ j < 0) (hjn : j.toNatClampNeg = jn) (hv : vs[jn]? = some v) (hp : pc + 1 = pc') (hr : WP l Z hB y bytes ml ret R n1 Q sl H pc' Ls (v :: st)) : WP l Z hB y bytes ml ret R n1 Q sl H pc Ls (.int j :: rf hB i :: st) := by
  subst hp; subst hjn
  refine WP.step (fun p e s m args below meth c T locs cells slots C X P tgt h => ?_) hr
  obtain ⟨cl, h1, h2, -⟩ := P.at hi
  exact X.aaload C.1 h1.1 (State.isArrayOf_alike C.2.1.alike h1.2.1) ht h1.2.2 (inb h2 h0 hv).1 (inb h2 h0 hv).2 (g := mkF m pc Ls (.int j :: rf hB i :: st)) rfl rfl (hb C.2.2.1 hd) _ h
theorem baloadOld {a : Addr} {cl : Cell} {j : Int32} {v : Value} (hd : decode bytes pc = .ok (.baload, 1)) (A : Arr Z hB a cl .byte) (h0 : ¬ (j < 0 ∨ cl.slots.size ≤ j.toNatClampNeg)) (hv : cl.slots[j.toNatClampNeg]? = some v) (hp : pc + 1 = pc') (hr : WP l Z hB y bytes ml ret R n1 Q sl H pc' Ls (v :: st)) : WP l Z hB y bytes ml ret R n1 Q sl H pc Ls (.int j :: .ref a :: st) := by
  subst hp
  refine WP.step (fun p e s m args below meth c T locs cells slots C X P tgt h => ?_) hr
  have h1 := A.ext P.toExt
  exact X.baloadBytes C.1 h1.1 (State.isArrayOf_alike C.2.1.alike h1.2.1) h1.2.2 h0 hv (g := mkF m pc Ls (.int j :: .ref a :: st)) rfl rfl (hb C.2.2.1 hd) _ h
theorem ialoadOld {a : Addr} {cl : Cell} {j : Int32} {v : Value} (hd : decode bytes pc = .ok (.iaload, 1)) (A : Arr Z hB a cl .int) (h0 : ¬ (j < 0 ∨ cl.slots.size ≤ j.toNatClampNeg)) (hv : cl.slots[j.toNatClampNeg]? = some v) (hp : pc + 1 = pc') (hr : WP l Z hB y bytes ml ret R n1 Q sl H pc' Ls (v :: st)) : WP l Z hB y bytes ml ret R n1 Q sl H pc Ls (.int j :: .ref a :: st) := by
  subst hp
  refine WP.step (fun p e s m args below meth c T locs cells slots C X P tgt h => ?_) hr
  have h1 := A.ext P.toExt
  exact X.iaload C.1 h1.1 (State.isArrayOf_alike C.2.1.alike h1.2.1) h1.2.2 h0 hv (g := mkF m pc Ls (.int j :: .ref a :: st)) rfl rfl (hb C.2.2.1 hd) _ h
theorem aaloadOld {a : Addr} {t : FieldType} {cl : Cell} {j : Int32} {v : Value} (hd : decode bytes pc = .ok (.aaload, 1)) (A : Arr Z hB a cl t) (ht : t.isReference = true) (h0 : ¬ (j < 0 ∨ cl.slots.size ≤ j.toNatClampNeg)) (hv : cl.slots[j.toNatClampNeg]? = some v) (hp : pc + 1 = pc') (hr : WP l Z hB y bytes ml ret R n1 Q sl H pc' Ls (v :: st)) : WP l Z hB y bytes ml ret R n1 Q sl H pc Ls (.int j :: .ref a :: st) := by
  subst hp
  refine WP.step (fun p e s m args below meth c T locs cells slots C X P tgt h => ?_) hr
  have h1 := A.ext P.toExt
  exact X.aaload C.1 h1.1 (State.isArrayOf_alike C.2.1.alike h1.2.1) ht h1.2.2 h0 hv (g := mkF m pc Ls (.int j :: .ref a :: st)) rfl rfl (hb C.2.2.1 hd) _ h
theorem iastore {i : Nat} {vs : List Value} {j : Int32} {x : Int32} {jn : Nat} (hd : decode bytes pc = .ok (.iastore, 1)) (hi : H[i]? = some (arr .int vs)) (h0 : ¬ j < 0) (hjn : j.toNatClampNeg = jn) (hlt : jn < vs.length) (hH : H.set i (arr .int (vs.set jn (.int x))) = H') (hp : pc + 1 = pc') (hr : WP l Z hB y bytes ml ret R n1 Q sl H' pc' Ls st) : WP l Z hB y bytes ml ret R n1 Q sl H pc Ls (.int x :: .int j :: rf hB i :: st) := by
  subst hp; subst hH; subst hjn
  refine WP.stepH (fun p e s m args below meth c T locs cells slots C X hz N P hs => ?_) hr
  obtain ⟨cl, h1, h2, -⟩ := P.at hi
  obtain ⟨T', h', X', e', W, k⟩ := stI X C.1 C.2.1 rfl h1 (inb h2 h0 (List.getElem?_eq_getElem hlt)).1 (g := mkF m pc Ls (.int x :: .int j :: rf hB i :: st)) rfl rfl (hb C.2.2.1 hd)
  exact ⟨T', _, _, _, X', Fr.snoc X' N (Nat.le_add_right _ _), by rw [e']; exact P.wrA hi (rfl) W, hs, k⟩
theorem lastore {i : Nat} {vs : List Value} {j : Int32} {x : Int64} {jn : Nat} (hd : decode bytes pc = .ok (.lastore, 1)) (hi : H[i]? = some (arr .long vs)) (h0 : ¬ j < 0) (hjn : j.toNatClampNeg = jn) (hlt : jn < vs.length) (hH : H.set i (arr .long (vs.set jn (.long x))) = H') (hp : pc + 1 = pc') (hr : WP l Z hB y bytes ml ret R n1 Q sl H' pc' Ls st) : WP l Z hB y bytes ml ret R n1 Q sl H pc Ls (.long x :: .int j :: rf hB i :: st) := by
  subst hp; subst hH; subst hjn
  refine WP.stepH (fun p e s m args below meth c T locs cells slots C X hz N P hs => ?_) hr
  obtain ⟨cl, h1, h2, -⟩ := P.at hi
  obtain ⟨T', h', X', e', W, k⟩ := stJ X C.1 C.2.1 rfl h1 (inb h2 h0 (List.getElem?_eq_getElem hlt)).1 (g := mkF m pc Ls (.long x :: .int j :: rf hB i :: st)) rfl rfl (hb C.2.2.1 hd)
  exact ⟨T', _, _, _, X', Fr.snoc X' N (Nat.le_add_right _ _), by rw [e']; exact P.wrA hi (rfl) W, hs, k⟩
theorem castore {i : Nat} {vs : List Value} {j : Int32} {x : Int32} {jn : Nat} (hd : decode bytes pc = .ok (.castore, 1)) (hi : H[i]? = some (arr .char vs)) (h0 : ¬ j < 0) (hjn : j.toNatClampNeg = jn) (hlt : jn < vs.length) (hH : H.set i (arr .char (vs.set jn (.int (nar .char x)))) = H') (hp : pc + 1 = pc') (hr : WP l Z hB y bytes ml ret R n1 Q sl H' pc' Ls st) : WP l Z hB y bytes ml ret R n1 Q sl H pc Ls (.int x :: .int j :: rf hB i :: st) := by
  subst hp; subst hH; subst hjn
  refine WP.stepH (fun p e s m args below meth c T locs cells slots C X hz N P hs => ?_) hr
  obtain ⟨cl, h1, h2, -⟩ := P.at hi
  obtain ⟨T', h', X', e', W, k⟩ := stC X C.1 C.2.1 rfl h1 (inb h2 h0 (List.getElem?_eq_getElem hlt)).1 (g := mkF m pc Ls (.int x :: .int j :: rf hB i :: st)) rfl rfl (hb C.2.2.1 hd)
  exact ⟨T', _, _, _, X', Fr.snoc X' N (Nat.le_add_right _ _), by rw [e']; exact P.wrA hi (fits_nar_char x) W, hs, k⟩
theorem bastore {i : Nat} {vs : List Value} {j : Int32} {x : Int32} {jn : Nat} (hd : decode bytes pc = .ok (.bastore, 1)) (hi : H[i]? = some (arr .byte vs)) (h0 : ¬ j < 0) (hjn : j.toNatClampNeg = jn) (hlt : jn < vs.length) (hH : H.set i (arr .byte (vs.set jn (.int (nar .byte x)))) = H') (hp : pc + 1 = pc') (hr : WP l Z hB y bytes ml ret R n1 Q sl H' pc' Ls st) : WP l Z hB y bytes ml ret R n1 Q sl H pc Ls (.int x :: .int j :: rf hB i :: st) := by
  subst hp; subst hH; subst hjn
  refine WP.stepH (fun p e s m args below meth c T locs cells slots C X hz N P hs => ?_) hr
  obtain ⟨cl, h1, h2, -⟩ := P.at hi
  obtain ⟨T', h', X', e', W, k⟩ := stB X C.1 C.2.1 rfl h1 (inb h2 h0 (List.getElem?_eq_getElem hlt)).1 (g := mkF m pc Ls (.int x :: .int j :: rf hB i :: st)) rfl rfl (hb C.2.2.1 hd)
  exact ⟨T', _, _, _, X', Fr.snoc X' N (Nat.le_add_right _ _), by rw [e']; exact P.wrA hi (fits_nar_byte x) W, hs, k⟩
theorem zastore {i : Nat} {vs : List Value} {j : Int32} {x : Int32} {jn : Nat} (hd : decode bytes pc = .ok (.bastore, 1)) (hi : H[i]? = some (arr .boolean vs)) (h0 : ¬ j < 0) (hjn : j.toNatClampNeg = jn) (hlt : jn < vs.length) (hH : H.set i (arr .boolean (vs.set jn (.int (nar .boolean x)))) = H') (hp : pc + 1 = pc') (hr : WP l Z hB y bytes ml ret R n1 Q sl H' pc' Ls st) : WP l Z hB y bytes ml ret R n1 Q sl H pc Ls (.int x :: .int j :: rf hB i :: st) := by
  subst hp; subst hH; subst hjn
  refine WP.stepH (fun p e s m args below meth c T locs cells slots C X hz N P hs => ?_) hr
  obtain ⟨cl, h1, h2, -⟩ := P.at hi
  obtain ⟨T', h', X', e', W, k⟩ := stZ X C.1 C.2.1 rfl h1 (inb h2 h0 (List.getElem?_eq_getElem hlt)).1 (g := mkF m pc Ls (.int x :: .int j :: rf hB i :: st)) rfl rfl (hb C.2.2.1 hd)
  exact ⟨T', _, _, _, X', Fr.snoc X' N (Nat.le_add_right _ _), by rw [e']; exact P.wrA hi (fits_nar_bool x) W, hs, k⟩
theorem aastore {i : Nat} {t : FieldType} {vs : List Value} {j : Int32} {v : Value} {jn : Nat} (hd : decode bytes pc = .ok (.aastore, 1)) (hi : H[i]? = some (arr t vs)) (ht : t.isReference = true) (F : ∀ h, Hp Z hB h H → Sto Z h (hB.size + i) v) (hf : fits t v = true) (h0 : ¬ j < 0) (hjn : j.toNatClampNeg = jn) (hlt : jn < vs.length) (hH : H.set i (arr t (vs.set jn v)) = H') (hp : pc + 1 = pc') (hr : WP l Z hB y bytes ml ret R n1 Q sl H' pc' Ls st) : WP l Z hB y bytes ml ret R n1 Q sl H pc Ls (v :: .int j :: rf hB i :: st) := by
  subst hp; subst hH; subst hjn
  refine WP.stepH (fun p e s m args below meth c T locs cells slots C X hz N P hs => ?_) hr
  obtain ⟨cl, h1, h2, -⟩ := P.at hi
  obtain ⟨T', h', X', e', W, k⟩ := stR X C.1 C.2.1 rfl h1 (inb h2 h0 (List.getElem?_eq_getElem hlt)).1 ht (F _ P) (g := mkF m pc Ls (v :: .int j :: rf hB i :: st)) rfl rfl (hb C.2.2.1 hd)
  exact ⟨T', _, _, _, X', Fr.snoc X' N (Nat.le_add_right _ _), by rw [e']; exact P.wrA hi hf W, hs, k⟩
theorem ialoadI {i : Nat} {xs : List Int32} {j x : Int32} {jn : Nat} (hd : decode bytes pc = .ok (.iaload, 1)) (hi : H[i]? = some (ints xs)) (h0 : ¬ j < 0) (hjn : j.toNatClampNeg = jn) (hv : xs[jn]? = some x) (hp : pc + 1 = pc') (hr : WP l Z hB y bytes ml ret R n1 Q sl H pc' Ls (.int x :: st)) : WP l Z hB y bytes ml ret R n1 Q sl H pc Ls (.int j :: rf hB i :: st) :=
  iaload hd hi h0 hjn (by rw [List.getElem?_map, hv]; rfl) hp hr
theorem iastoreI {i : Nat} {xs : List Int32} {j x : Int32} {jn : Nat} (hd : decode bytes pc = .ok (.iastore, 1)) (hi : H[i]? = some (ints xs)) (h0 : ¬ j < 0) (hjn : j.toNatClampNeg = jn) (hlt : jn < xs.length) (hH : H.set i (ints (xs.set jn x)) = H') (hp : pc + 1 = pc') (hr : WP l Z hB y bytes ml ret R n1 Q sl H' pc' Ls st) : WP l Z hB y bytes ml ret R n1 Q sl H pc Ls (.int x :: .int j :: rf hB i :: st) :=
  iastore hd hi h0 hjn (by rw [List.length_map]; exact hlt) (by rw [← hH]; show H.set i (arr .int ((xs.map Value.int).set jn (Value.int x))) = H.set i (arr .int ((xs.set jn x).map Value.int)); rw [List.map_set]) hp hr
theorem ialoadG {i : Nat} {xs : List Int32} {j x : Int32} (hd : decode bytes pc = .ok (.iaload, 1)) (hi : H[i]? = some (ints xs)) (hg : gI xs j = some x) (hp : pc + 1 = pc') (hr : WP l Z hB y bytes ml ret R n1 Q sl H pc' Ls (.int x :: st)) : WP l Z hB y bytes ml ret R n1 Q sl H pc Ls (.int j :: rf hB i :: st) :=
  ialoadI hd hi (gI_at hg).1 rfl (gI_at hg).2 hp hr
theorem iastoreG {i : Nat} {xs xs' : List Int32} {j x : Int32} (hd : decode bytes pc = .ok (.iastore, 1)) (hi : H[i]? = some (ints xs)) (hg : sI xs j x = some xs') (hH : H.set i (ints xs') = H') (hp : pc + 1 = pc') (hr : WP l Z hB y bytes ml ret R n1 Q sl H' pc' Ls st) : WP l Z hB y bytes ml ret R n1 Q sl H pc Ls (.int x :: .int j :: rf hB i :: st) :=
  iastoreI hd hi (sI_at hg).1 rfl (sI_at hg).2.1 (by rw [← hH, (sI_at hg).2.2]) hp hr
theorem lastoreG {i : Nat} {xs xs' : List Int64} {j : Int32} {x : Int64} (hd : decode bytes pc = .ok (.lastore, 1)) (hi : H[i]? = some (longs xs)) (hg : sJ xs j x = some xs') (hH : H.set i (longs xs') = H') (hp : pc + 1 = pc') (hr : WP l Z hB y bytes ml ret R n1 Q sl H' pc' Ls st) : WP l Z hB y bytes ml ret R n1 Q sl H pc Ls (.long x :: .int j :: rf hB i :: st) :=
  lastore hd hi (sJ_at hg).1 rfl (by rw [List.length_map]; exact (sJ_at hg).2.1) (by rw [← hH, (sJ_at hg).2.2]; show H.set i (arr .long ((xs.map Value.long).set j.toNatClampNeg (Value.long x))) = H.set i (arr .long ((xs.set j.toNatClampNeg x).map Value.long)); rw [List.map_set]) hp hr
theorem stoO {h : Heap} (P : Hp Z hB h H) {i : Nat} {C : String} {vs : List Value} {b : Addr} (hi : H[i]? = some (arr (.object C) vs)) (I : Ins Z h b C true) : Sto Z h (hB.size + i) (.ref b) := by
  obtain ⟨cl, h1, -, -, -, h6, -⟩ := P.at hi
  exact Sto.of h1 (h6.1 _ rfl) I
theorem stoA {h : Heap} (P : Hp Z hB h H) {i : Nat} {ty : FieldType} {C : String} {vs : List Value} {b : Addr} (hi : H[i]? = some (arr (.array ty) vs)) (hC : (FieldType.array ty).toString = C) (I : Ins Z h b C true) : Sto Z h (hB.size + i) (.ref b) := by
  subst hC
  obtain ⟨cl, h1, -, -, -, h6, -⟩ := P.at hi
  obtain ⟨k, comp, o1, o2, o3⟩ := h6.2 _ rfl
  obtain ⟨cv, cT, i1, i2, i3⟩ := I
  cases o3.symm.trans i2
  simp only [Bool.and_eq_true, Bool.not_eq_true'] at i3
  obtain ⟨kc, q⟩ := Vm.classAt_of_findClass o3
  obtain ⟨kv, q2⟩ := Vm.classAt_of_assignable i3.2 ⟨kc, q⟩
  exact Or.inr ⟨cl, cv, k, kv, kc, _, _, b, h1.1, o1, o2, q, rfl, i1, i3.1, q2, i3.2⟩
/-- System.arraycopy into an array made since -/
theorem arraycopy {a : Addr} {i index : Nat} {t t' : FieldType} {vs vd us : List Value} {z sp dp nn : Int32} {spn dpn n : Nat} {dv : Value} (hd : decode bytes pc = .ok (.invokestatic index, 3)) (w1 : (Jvm.Cond.methodLink y.cls index Jvm.Stand.acN).before a0 Z = true) (w2 : (Jvm.Cond.native Jvm.Stand.acN).before a0 Z = true) (w3 : (Jvm.Cond.static Jvm.Stand.acN).before a0 Z = true) (w4 : (Jvm.Cond.initialized "java/lang/System").before a0 Z = true)
    (A : ∀ h, Hp Z hB h H → ∃ k, Arv Z h a k t z vs dv) (hi : H[i]? = some (arr t' vd)) (hty : (t = t' ∧ refKind t = false) ∨ (refKind t = true ∧ refKind t' = true ∧ ∀ h, Hp Z hB h H → StoL Z h (hB.size + i) us)) (h1 : ¬ sp < 0) (h2 : ¬ dp < 0) (h3 : ¬ nn < 0) (e1 : sp.toNatClampNeg = spn) (e2 : dp.toNatClampNeg = dpn) (e3 : nn.toNatClampNeg = n) (h4 : spn + n ≤ z.toNatClampNeg) (h5 : dpn + n ≤ vd.length) (hl : vd.length < 2 ^ 31)
    (hus : us = (List.range n).map fun j => vs.getD (spn + j) dv) (hml : Ls.size = ml) (hf : 1 ≤ R.frames) (hlo : (st.map fun v => v.category).sum + (nativeFrameWords "java/lang/System" "arraycopy" 5 + 11) ≤ R.locals) (hH : H.set i (arr t' (vd.take dpn ++ us ++ vd.drop (dpn + n))) = H') (hp : pc + 3 = pc') (hr : WP l Z hB y bytes ml ret R n1 Q sl H' pc' Ls st) : WP l Z hB y bytes ml ret R n1 Q sl H pc Ls (.int nn :: .int dp :: rf hB i :: .int sp :: .ref a :: st) := by
  subst hp; subst hH; subst e1; subst e2; subst e3
  refine WP.stepH (fun p e s m args below meth c T locs cells slots C X hz N P hs => ?_) hr
  obtain ⟨k, A⟩ := A _ P
  obtain ⟨k', B⟩ := P.arv hi hl .null
  obtain ⟨T', h', L, X', e', N', K, B', stp⟩ := cpA X C.1 C.2.1 C.2.2.2.2.1 w1 w2 w3 w4 rfl A B (hty.imp id fun q => ⟨q.1, q.2.1, q.2.2 _ P⟩) h1 h2 h3 h4 (by rw [(toNat_len hl).1]; exact h5) hus h5 N (Nat.le_add_right _ _) (g := mkF m pc Ls (.int nn :: .int dp :: rf hB i :: .int sp :: .ref a :: st)) rfl (hml.trans C.2.2.2.1.symm) rfl (hb C.2.2.1 hd) hf (W := (st.map fun v => v.category).sum) (by show 2 * 0 + _ ≤ _; omega) hlo
  subst e'
  have hle := X'.heapSize
  have ul : us.length = nn.toNatClampNeg := by rw [hus]; simp
  exact ⟨T', L, cells, slots, X', N', P.copied hi (by omega) K hl (by simp only [List.length_append, List.length_take, List.length_drop, ul]; omega) B', hs, stp⟩
theorem ldcInt {index : Nat} {x : Int32} (hd : decode bytes pc = .ok (.ldc index, 2)) (w : (Jvm.Cond.constant y.cls index x).before a0 Z = true) (hp : pc + 2 = pc') (hr : WP l Z hB y bytes ml ret R n1 Q sl H pc' Ls (.int x :: st)) : WP l Z hB y bytes ml ret R n1 Q sl H pc Ls st := by
  subst hp
  exact WP.step (fun p e s m args below meth c T locs cells slots C X P tgt h => X.ldcInt C.1 C.2.2.2.2.1 (mvT C.2.1 w) (g := mkF m pc Ls st) rfl (hb C.2.2.1 hd) _ h) hr
theorem ldc2Long {index : Nat} {x : Int64} (hd : decode bytes pc = .ok (.ldc2_w index, 3)) (w : (Jvm.Cond.constantLong y.cls index x).before a0 Z = true) (hp : pc + 3 = pc') (hr : WP l Z hB y bytes ml ret R n1 Q sl H pc' Ls (.long x :: st)) : WP l Z hB y bytes ml ret R n1 Q sl H pc Ls st := by
  subst hp
  exact WP.step (fun p e s m args below meth c T locs cells slots C X P tgt h => X.ldc2Long C.1 C.2.2.2.2.1 (mvT C.2.1 w) (g := mkF m pc Ls st) rfl (hb C.2.2.1 hd) _ h) hr
theorem getCls {a mr : Addr} {C : String} {index : Nat} (hd : decode bytes pc = .ok (.invokevirtual index, 3)) (w1 : (Jvm.Cond.methodLink y.cls index Jvm.Stand.gcN).before a0 Z = true) (w2 : (Jvm.Cond.declares Jvm.Stand.gcN).before a0 Z = true) (hnf : ∀ s : State, Z.Warmed39 s.vm → NotFace s Jvm.Stand.gcN) (w4 : (Jvm.Cond.selects C Jvm.Stand.gcN Jvm.Stand.gcN).before a0 Z = true) (w5 : (Jvm.Cond.instanceMethod Jvm.Stand.gcN).before a0 Z = true) (w6 : (Jvm.Cond.native Jvm.Stand.gcN).before a0 Z = true) (E : ∀ h, Hp Z hB h H → Exa Z h a C) (M : Mir Z C mr) (hml : Ls.size = ml) (hf : 1 ≤ R.frames) (hlo : (st.map fun v => v.category).sum + (nativeFrameWords "java/lang/Object" "getClass" 1 + 11) ≤ R.locals) (hp : pc + 3 = pc') (hr : WP l Z hB y bytes ml ret R n1 Q sl H pc' Ls (.ref mr :: st)) : WP l Z hB y bytes ml ret R n1 Q sl H pc Ls (.ref a :: st) := by
  subst hp
  refine WP.stepT (fun p e s m args below meth c T locs cells slots C' X P => ?_) hr
  obtain ⟨cB, kB, i1, i2, i3⟩ := isOf (s := s) (T := T) C'.2.1 rfl (E _ P)
  obtain ⟨cc, kc, m1, m2, m3, -⟩ := M
  rw [C'.2.1.alike.findClass] at i1
  cases i1.symm.trans m1
  obtain ⟨k', q, ek⟩ := C'.2.1.alike.2.2 _ _ m2
  obtain ⟨vm', X', st⟩ := X.getClassOf C'.1 C'.2.2.2.2.1 (mvT C'.2.1 w1) (mvT C'.2.1 w2) (hnf s C'.2.1) (mvT C'.2.1 w4) (mvT C'.2.1 w5) (mvT C'.2.1 w6) (by rw [C'.2.1.alike.findClass]; exact m1) i3 q (by rw [ek]; exact m3) (g := mkF m pc Ls (.ref a :: st)) rfl (hml.trans C'.2.2.2.1.symm) rfl (hb C'.2.2.1 hd) hf (by show 2 * 0 + _ + _ ≤ _; omega)
  exact ⟨_, X', rfl, st⟩
theorem ldcMir {mr : Addr} {C : String} {index : Nat} (hd : decode bytes pc = .ok (.ldc index, 2)) (w : (Jvm.Cond.classLink y.cls index C).before a0 Z = true) (M : Mir Z C mr) (hp : pc + 2 = pc') (hr : WP l Z hB y bytes ml ret R n1 Q sl H pc' Ls (.ref mr :: st)) : WP l Z hB y bytes ml ret R n1 Q sl H pc Ls st := by
  subst hp
  refine WP.stepT (fun p e s m args below meth c T locs cells slots C' X P => ?_) hr
  obtain ⟨cc, kc, m1, m2, m3, -⟩ := M
  obtain ⟨k', q, ek⟩ := C'.2.1.alike.2.2 _ _ m2
  have f1 : s.vm.findClass C = some cc := by rw [C'.2.1.alike.findClass]; exact m1
  have hm : k'.mirror = some mr := by rw [ek]; exact m3
  have hev : (Term.mirror C).eval args s none [] s = some (.ref mr) := by simp [Term.eval, f1, q, hm]
  obtain ⟨vm', X', st⟩ := X.ldcMirror C'.1 C'.2.2.2.2.1 (mvT C'.2.1 w) hev (g := mkF m pc Ls st) rfl (hb C'.2.2.1 hd)
  exact ⟨_, X', rfl, st⟩
theorem castTo {K : String} {index : Nat} {a : Addr} (hd : decode bytes pc = .ok (.checkcast index, 3)) (w : (Jvm.Cond.classLink y.cls index K).before a0 Z = true) (F : ∀ h, Hp Z hB h H → Ins Z h a K true) (hp : pc + 3 = pc') (hr : WP l Z hB y bytes ml ret R n1 Q sl H pc' Ls (.ref a :: st)) : WP l Z hB y bytes ml ret R n1 Q sl H pc Ls (.ref a :: st) := by
  subst hp
  exact WP.stepT (fun p e s m args below meth c T locs cells slots C X P => castY X C.1 C.2.1 C.2.2.2.2.1 w rfl (F _ P) (g := mkF m pc Ls (.ref a :: st)) rfl rfl (hb C.2.2.1 hd)) hr
theorem instYes {K : String} {index : Nat} {a : Addr} (hd : decode bytes pc = .ok (.instanceof index, 3)) (w : (Jvm.Cond.classLink y.cls index K).before a0 Z = true) (F : ∀ h, Hp Z hB h H → Ins Z h a K true) (hp : pc + 3 = pc') (hr : WP l Z hB y bytes ml ret R n1 Q sl H pc' Ls (.int 1 :: st)) : WP l Z hB y bytes ml ret R n1 Q sl H pc Ls (.ref a :: st) := by
  subst hp
  exact WP.stepT (fun p e s m args below meth c T locs cells slots C X P => instY X C.1 C.2.1 C.2.2.2.2.1 w rfl (F _ P) (g := mkF m pc Ls (.ref a :: st)) rfl rfl (hb C.2.2.1 hd)) hr
theorem instNot {K C : String} {index : Nat} {a : Addr} (hd : decode bytes pc = .ok (.instanceof index, 3)) (w : (Jvm.Cond.classLink y.cls index K).before a0 Z = true) (E : ∀ h, Hp Z hB h H → Exa Z h a C) (F : ∃ c t, Z.vm.findClass C = some c ∧ Z.vm.findClass K = some t ∧ Z.vm.assignable c t = false) (hp : pc + 3 = pc') (hr : WP l Z hB y bytes ml ret R n1 Q sl H pc' Ls (.int 0 :: st)) : WP l Z hB y bytes ml ret R n1 Q sl H pc Ls (.ref a :: st) := by
  subst hp
  exact WP.stepT (fun p e s m args below meth c T locs cells slots C X P => instNo X C.1 C.2.1 C.2.2.2.2.1 w rfl (E _ P) F (g := mkF m pc Ls (.ref a :: st)) rfl rfl (hb C.2.2.1 hd)) hr
theorem instNull {index : Nat} (hd : decode bytes pc = .ok (.instanceof index, 3)) (hp : pc + 3 = pc') (hr : WP l Z hB y bytes ml ret R n1 Q sl H pc' Ls (.int 0 :: st)) : WP l Z hB y bytes ml ret R n1 Q sl H pc Ls (.null :: st) := by
  subst hp
  exact WP.step (fun p e s m args below meth c T locs cells slots C X P tgt h => X.instanceofNull C.1 (g := mkF m pc Ls (.null :: st)) rfl rfl (hb C.2.2.1 hd) _ h) hr
theorem castNull {index : Nat} (hd : decode bytes pc = .ok (.checkcast index, 3)) (hp : pc + 3 = pc') (hr : WP l Z hB y bytes ml ret R n1 Q sl H pc' Ls (.null :: st)) : WP l Z hB y bytes ml ret R n1 Q sl H pc Ls (.null :: st) := by
  subst hp
  exact WP.step (fun p e s m args below meth c T locs cells slots C X P tgt h => X.checkcastNull C.1 (g := mkF m pc Ls (.null :: st)) rfl rfl (hb C.2.2.1 hd) _ h) hr
/-! returns -/
theorem retV {w : Value} {t : FieldType} {i : Instr} (hd : decode bytes pc = .ok (i, 1)) (hret : ret = some t) (hn : narrow t w = w)
    (hi : (i = .ireturn ∧ (t = .int ∨ t = .boolean ∨ t = .byte ∨ t = .char ∨ t = .short) ∧ ∃ z, w = .int z) ∨ (i = .lreturn ∧ t = .long ∧ ∃ z, w = .long z) ∨ (i = .dreturn ∧ t = .double ∧ ∃ z, w = .double z) ∨ (i = .freturn ∧ t = .float ∧ ∃ z, w = .float z) ∨ (i = .areturn ∧ t.isReference = true ∧ w.isRef = true))
    (hc : H.length ≤ n1 + R.cells) (hs : sl ≤ R.slots) (hQ : Q (some w) H) : WP l Z hB y bytes ml ret R n1 Q sl H pc Ls (w :: st) := by
  intro p e s m args below meth c C T locs cells slots X N P hs'
  have hr := C.2.2.2.2.2.2.1.trans hret
  have hsz := C.2.2.2.2.2.2.2.2
  have hp1 := P.1
  obtain ⟨fs, hl, hrun, hended, hW, hsame⟩ := (exact' X (k := R.cells) (by omega)).leave (v := some w) (fun h => by rw [hr] at h; cases h) C.2.2.2.2.2.2.2.1
  exact ⟨_, _, retOut X C.1 hr hn hi (hb C.2.2.1 hd) hl, hrun, hended, some w, locs, H, rfl, hQ, P, N, ⟨_, rfl⟩, hW, hsame.mono (Nat.le_refl _) (Nat.le_trans hs' hs)⟩
theorem iret {x : Int32} {t : FieldType} (hd : decode bytes pc = .ok (.ireturn, 1)) (hret : ret = some t) (ht : t = .int ∨ t = .boolean ∨ t = .byte ∨ t = .char ∨ t = .short) (hn : narrow t (.int x) = .int x) (hc : H.length ≤ n1 + R.cells) (hs : sl ≤ R.slots) (hQ : Q (some (.int x)) H) : WP l Z hB y bytes ml ret R n1 Q sl H pc Ls (.int x :: st) :=
  retV hd hret hn (Or.inl ⟨rfl, ht, _, rfl⟩) hc hs hQ
theorem iretN {x : Int32} {t : FieldType} (hd : decode bytes pc = .ok (.ireturn, 1)) (hret : ret = some t) (ht : t = .boolean ∨ t = .byte ∨ t = .char ∨ t = .short) (hc : H.length ≤ n1 + R.cells) (hs : sl ≤ R.slots) (hQ : Q (some (.int (nar t x))) H) : WP l Z hB y bytes ml ret R n1 Q sl H pc Ls (.int x :: st) := by
  intro p e s m args below meth c C T locs cells slots X N P hs'
  have hr := C.2.2.2.2.2.2.1.trans hret
  have hsz := C.2.2.2.2.2.2.2.2
  have hp1 := P.1
  obtain ⟨fs, hl, hrun, hended, hW, hsame⟩ := (exact' X (k := R.cells) (by omega)).leave (v := some (.int (nar t x))) (fun h => by rw [hr] at h; cases h) C.2.2.2.2.2.2.2.1
  exact ⟨_, _, retN X C.1 hr ht (hb C.2.2.1 hd) hl, hrun, hended, _, locs, H, rfl, hQ, P, N, ⟨_, rfl⟩, hW, hsame.mono (Nat.le_refl _) (Nat.le_trans hs' hs)⟩
theorem lret {x : Int64} (hd : decode bytes pc = .ok (.lreturn, 1)) (hret : ret = some .long) (hc : H.length ≤ n1 + R.cells) (hs : sl ≤ R.slots) (hQ : Q (some (.long x)) H) : WP l Z hB y bytes ml ret R n1 Q sl H pc Ls (.long x :: st) :=
  retV hd hret rfl (Or.inr (Or.inl ⟨rfl, rfl, _, rfl⟩)) hc hs hQ
theorem aret {w : Value} {t : FieldType} (hd : decode bytes pc = .ok (.areturn, 1)) (hret : ret = some t) (ht : t.isReference = true) (hw : w.isRef = true) (hc : H.length ≤ n1 + R.cells) (hs : sl ≤ R.slots) (hQ : Q (some w) H) : WP l Z hB y bytes ml ret R n1 Q sl H pc Ls (w :: st) :=
  retV hd hret (by rcases ref_cases hw with rfl | ⟨a, rfl⟩ <;> cases t <;> first | rfl | cases ht) (Or.inr (Or.inr (Or.inr (Or.inr ⟨rfl, ht, hw⟩)))) hc hs hQ
theorem vret (hd : decode bytes pc = .ok (.return_, 1)) (hret : ret = none) (hc : H.length ≤ n1 + R.cells) (hs : sl ≤ R.slots) (hQ : Q none H) : WP l Z hB y bytes ml ret R n1 Q sl H pc Ls [] := by
  intro p e s m args below meth c C T locs cells slots X N P hs'
  have hr := C.2.2.2.2.2.2.1.trans hret
  have hsz := C.2.2.2.2.2.2.2.2
  have hp1 := P.1
  obtain ⟨fs, hl, hrun, hended, hW, hsame⟩ := (exact' X (k := R.cells) (by omega)).leave (v := none) (fun _ => rfl) C.2.2.2.2.2.2.2.1
  exact ⟨_, _, X.returnOut C.1 hr (hb C.2.2.1 hd) hl, hrun, hended, none, locs, H, rfl, hQ, P, N, ⟨_, rfl⟩, hW, hsame.mono (Nat.le_refl _) (Nat.le_trans hs' hs)⟩
/-! calls -/
section Calls
variable {y' z' : MethodName} {bytes' : ByteArray} {ml' : Nat} {ret' : Option FieldType} {rm : Room} {Q' : Option Value → List Rec → Prop} {index : Nat} {argsL st0 : List Value}
theorem mkBack {p : Program} {e : Env} {s : State} {args : Array Value} {below : List Frame} {h : Heap} {len W : Nat} {as' : Array Value} (hC : Ctr l Z hB y' bytes' ml' ret' [] rm as' H Q') (P : Hp Z hB h H) (hZ : Z.Warmed39 s.vm) (w4 : (Jvm.Cond.code y' bytes' ml' ret').before a0 Z = true) (w3 : (Jvm.Cond.initialized y'.cls).before a0 Z = true) (hfr : rm.frames + 1 ≤ R.frames) (hlo : W + (ml' + 11) + rm.locals ≤ R.locals) :
    Back l R p e below s args y' len W (fun A a => a = as' ∧ A.U.heap = h ∧ A.cells + rm.cells ≤ R.cells ∧ A.slots + rm.slots ≤ R.slots)
      (fun A _ v B => ∃ L, (∃ H', Q' v H' ∧ Hp Z hB B.U.heap H' ∧ Fr hB.size L) ∧ B.locs = A.locs ++ L ∧ B.cells = A.cells + rm.cells ∧ B.slots = A.slots + rm.slots) :=
  backOf (Q := fun v h L => ∃ H', Q' v H' ∧ Hp Z hB h H' ∧ Fr hB.size L) (MetFree.mono hC (fun a s h => ⟨h.1, h.2.1, by rw [h.2.2]; exact P⟩) (fun _ _ _ _ _ h => h) (fun a s o s' _ ⟨v, L, H', h1, h2, h3, h4, h5⟩ => ⟨v, L, h1, ⟨H', h2, h3, h4⟩, h5⟩)) hZ w4 w3 hfr hlo
theorem callS (hd : decode bytes pc = .ok (.invokestatic index, 3)) (w1 : (Jvm.Cond.methodLink y.cls index y').before a0 Z = true) (w2 : (Jvm.Cond.static y').before a0 Z = true) (w3 : (Jvm.Cond.initialized y'.cls).before a0 Z = true) (w4 : (Jvm.Cond.code y' bytes' ml' ret').before a0 Z = true) (hy : y'.cls ≠ "java/lang/invoke/MethodHandle" ∧ y'.cls ≠ "java/lang/invoke/VarHandle") (hlen : ∀ sig, parseMethodDescriptor y'.desc = some sig → argsL.length = sig.parameters.length)
    (hC : Ctr l Z hB y' bytes' ml' ret' [] rm argsL.toArray H Q') (hml : Ls.size = ml) (hfr : rm.frames + 1 ≤ R.frames) (hlo : (st.map fun v => v.category).sum + (ml' + 11) + rm.locals ≤ R.locals) (hcl : H.length + rm.cells ≤ n1 + R.cells) (hsl : sl + rm.slots ≤ R.slots) (hst : argsL.reverse ++ st = st0) (hp : pc + 3 = pc')
    (hr : ∀ v H', Q' v H' → WP l Z hB y bytes ml ret R n1 Q (sl + rm.slots) H' pc' Ls (v.toList ++ st)) : WP l Z hB y bytes ml ret R n1 Q sl H pc Ls st0 := by
  subst hp; subst hst
  intro p e s m args below meth c C T locs cells slots X N P hs
  have hsz := C.2.2.2.2.2.2.2.2
  have hp1 := P.1
  have hz : T.heap.size = s.heap.size + (T.heap.size - s.heap.size) := by have := X.same.2.1; have : s.heap.size ≤ T.heap.size := this; omega
  obtain ⟨v, vm1, ⟨U', ls, cc, ss⟩, -, X', ⟨L, hq, e1, e2, e3⟩, stp⟩ := Jvm.LawKit.callS (exact' X (Nat.le_of_eq hz)) C.1 (y := y') C.2.2.2.2.1 (mvT C.2.1 w1) (mvT C.2.1 w2) (mvT C.2.1 w3) (mvT C.2.1 w4) hy (mkBack (W := (st.map fun v => v.category).sum) hC P C.2.1 w4 w3 hfr hlo) (g := mkF m pc Ls (argsL.reverse ++ st)) rfl (hml.trans C.2.2.2.1.symm) (argsL := argsL) (rest := st) hlen rfl (by show 2 * 0 + _ ≤ _; omega) (hb C.2.2.1 hd) (fun _ _ => ⟨rfl, rfl, by show T.heap.size - s.heap.size + _ ≤ _; omega, by show slots + _ ≤ _; omega⟩)
  dsimp only [Pt.U, Pt.locs, Pt.cells, Pt.slots] at X' e1 e2 e3 stp hq
  subst e1 e2 e3
  obtain ⟨H', q1, q2, q3⟩ := hq
  obtain ⟨U, o, h1, h2⟩ := hr v H' q1 p e s m args below meth c C U' _ _ _ X' (Fr.app N q3) q2 (by omega)
  exact ⟨U, o, stp U h1, h2⟩
theorem callI {a : Addr} (hd : decode bytes pc = .ok (.invokespecial index, 3)) (hy1 : y'.name = "<init>") (w1 : (Jvm.Cond.methodLink y.cls index y').before a0 Z = true) (w2 : (Jvm.Cond.instanceMethod y').before a0 Z = true) (w3 : (Jvm.Cond.initialized y'.cls).before a0 Z = true) (w4 : (Jvm.Cond.code y' bytes' ml' none).before a0 Z = true) (hy : y'.cls ≠ "java/lang/invoke/MethodHandle" ∧ y'.cls ≠ "java/lang/invoke/VarHandle") (hlen : ∀ sig, parseMethodDescriptor y'.desc = some sig → argsL.length = sig.parameters.length)
    (hC : Ctr l Z hB y' bytes' ml' none [] rm (.ref a :: argsL).toArray H Q') (hml : Ls.size = ml) (hfr : rm.frames + 1 ≤ R.frames) (hlo : (st.map fun v => v.category).sum + (ml' + 11) + rm.locals ≤ R.locals) (hcl : H.length + rm.cells ≤ n1 + R.cells) (hsl : sl + rm.slots ≤ R.slots) (hst : argsL.reverse ++ .ref a :: st = st0) (hp : pc + 3 = pc')
    (hr : ∀ v H', Q' v H' → WP l Z hB y bytes ml ret R n1 Q (sl + rm.slots) H' pc' Ls (v.toList ++ st)) : WP l Z hB y bytes ml ret R n1 Q sl H pc Ls st0 := by
  subst hp; subst hst
  intro p e s m args below meth c C T locs cells slots X N P hs
  have hsz := C.2.2.2.2.2.2.2.2
  have hp1 := P.1
  have hz : T.heap.size = s.heap.size + (T.heap.size - s.heap.size) := by have := X.same.2.1; have : s.heap.size ≤ T.heap.size := this; omega
  obtain ⟨v, vm1, ⟨U', ls, cc, ss⟩, -, X', ⟨L, hq, e1, e2, e3⟩, stp⟩ := (exact' X (Nat.le_of_eq hz)).specialBack C.1 (y := y') hy1 C.2.2.2.2.1 (mvT C.2.1 w1) (mvT C.2.1 w2) (mvT C.2.1 w4) hy (mkBack (W := (st.map fun v => v.category).sum) hC P C.2.1 w4 w3 hfr hlo) (g := mkF m pc Ls (argsL.reverse ++ .ref a :: st)) rfl (hml.trans C.2.2.2.1.symm) (Steps.refl _) (a := a) (argsL := argsL) (rest := st) hlen rfl (by show 2 * 0 + _ ≤ _; omega) (hb C.2.2.1 hd) (fun _ _ => ⟨rfl, rfl, by show T.heap.size - s.heap.size + _ ≤ _; omega, by show slots + _ ≤ _; omega⟩)
  dsimp only [Pt.U, Pt.locs, Pt.cells, Pt.slots] at X' e1 e2 e3 stp hq
  subst e1 e2 e3
  obtain ⟨H', q1, q2, q3⟩ := hq
  obtain ⟨U, o, h1, h2⟩ := hr v H' q1 p e s m args below meth c C U' _ _ _ X' (Fr.app N q3) q2 (by omega)
  exact ⟨U, o, stp.trans h1, h2⟩
theorem nfSel {C : String} (w : (Jvm.Cond.selects C y' y').before a0 Z = true) : ∀ s : State, Z.Warmed39 s.vm → NotFace s y' := fun s hZ => notFace_of_selects (args := #[]) (mvT hZ w)
theorem callV {a : Addr} {C : String} (hd : decode bytes pc = .ok (.invokevirtual index, 3)) (w1 : (Jvm.Cond.methodLink y.cls index y').before a0 Z = true) (w2 : (Jvm.Cond.declares y').before a0 Z = true) (hnf : ∀ s : State, Z.Warmed39 s.vm → NotFace s y') (w5 : (Jvm.Cond.selects C y' z').before a0 Z = true) (w6 : (Jvm.Cond.instanceMethod z').before a0 Z = true) (w3 : (Jvm.Cond.initialized z'.cls).before a0 Z = true) (w4 : (Jvm.Cond.code z' bytes' ml' ret').before a0 Z = true) (hy : y'.cls ≠ "java/lang/invoke/MethodHandle" ∧ y'.cls ≠ "java/lang/invoke/VarHandle") (hlen : ∀ sig, parseMethodDescriptor y'.desc = some sig → argsL.length = sig.parameters.length)
    (E : ∀ h, Hp Z hB h H → Exa Z h a C) (hC : Ctr l Z hB z' bytes' ml' ret' [] rm (.ref a :: argsL).toArray H Q') (hml : Ls.size = ml) (hfr : rm.frames + 1 ≤ R.frames) (hlo : (st.map fun v => v.category).sum + (ml' + 11) + rm.locals ≤ R.locals) (hcl : H.length + rm.cells ≤ n1 + R.cells) (hsl : sl + rm.slots ≤ R.slots) (hst : argsL.reverse ++ .ref a :: st = st0) (hp : pc + 3 = pc')
    (hr : ∀ v H', Q' v H' → WP l Z hB y bytes ml ret R n1 Q (sl + rm.slots) H' pc' Ls (v.toList ++ st)) : WP l Z hB y bytes ml ret R n1 Q sl H pc Ls st0 := by
  subst hp; subst hst
  intro p e s m args below meth c C' T locs cells slots X N P hs
  have hsz := C'.2.2.2.2.2.2.2.2
  have hp1 := P.1
  have hz : T.heap.size = s.heap.size + (T.heap.size - s.heap.size) := by have := X.same.2.1; have : s.heap.size ≤ T.heap.size := this; omega
  obtain ⟨cq, kq, qa, qb, qc⟩ := isOf (s := s) (T := T) C'.2.1 rfl (E _ P)
  obtain ⟨v, vm1, ⟨U', ls, cc, ss⟩, -, X', ⟨L, hq, e1, e2, e3⟩, stp⟩ := (exact' X (Nat.le_of_eq hz)).virtualBack C'.1 (y := y') (z := z') C'.2.2.2.2.1 (mvT C'.2.1 w1) (mvT C'.2.1 w2) (hnf s C'.2.1) (mvT C'.2.1 w5) (mvT C'.2.1 w6) hy (mkBack (W := (st.map fun v => v.category).sum) hC P C'.2.1 w4 w3 hfr hlo) qa qc (g := mkF m pc Ls (argsL.reverse ++ .ref a :: st)) rfl (hml.trans C'.2.2.2.1.symm) (Steps.refl _) (argsL := argsL) (rest := st) hlen rfl (by show 2 * 0 + _ ≤ _; omega) (hb C'.2.2.1 hd) (fun _ _ => ⟨rfl, rfl, by show T.heap.size - s.heap.size + _ ≤ _; omega, by show slots + _ ≤ _; omega⟩)
  dsimp only [Pt.U, Pt.locs, Pt.cells, Pt.slots] at X' e1 e2 e3 stp hq
  subst e1 e2 e3
  obtain ⟨H', q1, q2, q3⟩ := hq
  obtain ⟨U, o, h1, h2⟩ := hr v H' q1 p e s m args below meth c C' U' _ _ _ X' (Fr.app N q3) q2 (by omega)
  exact ⟨U, o, stp.trans h1, h2⟩
/-- through a subclass's name: the class 'owner' declares it -/
theorem callU {a : Addr} {C owner : String} (hd : decode bytes pc = .ok (.invokevirtual index, 3)) (w1 : (Jvm.Cond.methodLink y.cls index y').before a0 Z = true) (w7 : (Jvm.Cond.sameMethod y'.cls owner y'.name y'.desc).before a0 Z = true) (w2 : (Jvm.Cond.declares ⟨owner, y'.name, y'.desc⟩).before a0 Z = true) (w5 : (Jvm.Cond.selects C y' z').before a0 Z = true) (w6 : (Jvm.Cond.instanceMethod z').before a0 Z = true) (w3 : (Jvm.Cond.initialized z'.cls).before a0 Z = true) (w4 : (Jvm.Cond.code z' bytes' ml' ret').before a0 Z = true) (hy : owner ≠ "java/lang/invoke/MethodHandle" ∧ owner ≠ "java/lang/invoke/VarHandle") (hlen : ∀ sig, parseMethodDescriptor y'.desc = some sig → argsL.length = sig.parameters.length)
    (E : ∀ h, Hp Z hB h H → Exa Z h a C) (hC : Ctr l Z hB z' bytes' ml' ret' [] rm (.ref a :: argsL).toArray H Q') (hml : Ls.size = ml) (hfr : rm.frames + 1 ≤ R.frames) (hlo : (st.map fun v => v.category).sum + (ml' + 11) + rm.locals ≤ R.locals) (hcl : H.length + rm.cells ≤ n1 + R.cells) (hsl : sl + rm.slots ≤ R.slots) (hst : argsL.reverse ++ .ref a :: st = st0) (hp : pc + 3 = pc')
    (hr : ∀ v H', Q' v H' → WP l Z hB y bytes ml ret R n1 Q (sl + rm.slots) H' pc' Ls (v.toList ++ st)) : WP l Z hB y bytes ml ret R n1 Q sl H pc Ls st0 := by
  subst hp; subst hst
  intro p e s m args below meth c C' T locs cells slots X N P hs
  have hsz := C'.2.2.2.2.2.2.2.2
  have hp1 := P.1
  have hz : T.heap.size = s.heap.size + (T.heap.size - s.heap.size) := by have := X.same.2.1; have : s.heap.size ≤ T.heap.size := this; omega
  obtain ⟨cq, kq, qa, qb, qc⟩ := isOf (s := s) (T := T) C'.2.1 rfl (E _ P)
  obtain ⟨v, vm1, ⟨U', ls, cc, ss⟩, -, X', ⟨L, hq, e1, e2, e3⟩, stp⟩ := (exact' X (Nat.le_of_eq hz)).virtualBackUp C'.1 (x := y') (y := z') C'.2.2.2.2.1 (mvT C'.2.1 w1) (mvT C'.2.1 w7) (mvT C'.2.1 w2) hy (mvT C'.2.1 w5) (mvT C'.2.1 w6) (mkBack (W := (st.map fun v => v.category).sum) hC P C'.2.1 w4 w3 hfr hlo) qa qc (g := mkF m pc Ls (argsL.reverse ++ .ref a :: st)) rfl (hml.trans C'.2.2.2.1.symm) (Steps.refl _) (argsL := argsL) (rest := st) hlen rfl (by show 2 * 0 + _ ≤ _; omega) (hb C'.2.2.1 hd) (fun _ _ => ⟨rfl, rfl, by show T.heap.size - s.heap.size + _ ≤ _; omega, by show slots + _ ≤ _; omega⟩)
  dsimp only [Pt.U, Pt.locs, Pt.cells, Pt.slots] at X' e1 e2 e3 stp hq
  subst e1 e2 e3
  obtain ⟨H', q1, q2, q3⟩ := hq
  obtain ⟨U, o, h1, h2⟩ := hr v H' q1 p e s m args below meth c C' U' _ _ _ X' (Fr.app N q3) q2 (by omega)
  exact ⟨U, o, stp.trans h1, h2⟩
/-- a private method, by invokevirtual -/
theorem callP {a : Addr} {C : String} (hd : decode bytes pc = .ok (.invokevirtual index, 3)) (w1 : (Jvm.Cond.methodLink y.cls index y').before a0 Z = true) (w6 : (Jvm.Cond.instanceMethod y').before a0 Z = true) (w5 : (Jvm.Cond.selects y'.cls y' y').before a0 Z = true) (w8 : (Jvm.Cond.privateMethod y').before a0 Z = true) (w3 : (Jvm.Cond.initialized y'.cls).before a0 Z = true) (w4 : (Jvm.Cond.code y' bytes' ml' ret').before a0 Z = true) (hy : y'.cls ≠ "java/lang/invoke/MethodHandle" ∧ y'.cls ≠ "java/lang/invoke/VarHandle") (hlen : ∀ sig, parseMethodDescriptor y'.desc = some sig → argsL.length = sig.parameters.length)
    (E : ∀ h, Hp Z hB h H → Exa Z h a C) (hC : Ctr l Z hB y' bytes' ml' ret' [] rm (.ref a :: argsL).toArray H Q') (hml : Ls.size = ml) (hfr : rm.frames + 1 ≤ R.frames) (hlo : (st.map fun v => v.category).sum + (ml' + 11) + rm.locals ≤ R.locals) (hcl : H.length + rm.cells ≤ n1 + R.cells) (hsl : sl + rm.slots ≤ R.slots) (hst : argsL.reverse ++ .ref a :: st = st0) (hp : pc + 3 = pc')
    (hr : ∀ v H', Q' v H' → WP l Z hB y bytes ml ret R n1 Q (sl + rm.slots) H' pc' Ls (v.toList ++ st)) : WP l Z hB y bytes ml ret R n1 Q sl H pc Ls st0 := by
  subst hp; subst hst
  intro p e s m args below meth c C' T locs cells slots X N P hs
  have hsz := C'.2.2.2.2.2.2.2.2
  have hp1 := P.1
  have hz : T.heap.size = s.heap.size + (T.heap.size - s.heap.size) := by have := X.same.2.1; have : s.heap.size ≤ T.heap.size := this; omega
  obtain ⟨cq, qa, qb⟩ := (E _ P).cell
  obtain ⟨v, vm1, ⟨U', ls, cc, ss⟩, -, X', ⟨L, hq, e1, e2, e3⟩, stp⟩ := (exact' X (Nat.le_of_eq hz)).privateBack C'.1 (y := y') C'.2.2.2.2.1 (mvT C'.2.1 w1) (mvT C'.2.1 w6) (mvT C'.2.1 w5) (Cond.privateMethod_at (mvP C'.2.1 w8 (args := #[]))) (mvT C'.2.1 w4) hy (mkBack (W := (st.map fun v => v.category).sum) hC P C'.2.1 w4 w3 hfr hlo) (g := mkF m pc Ls (argsL.reverse ++ .ref a :: st)) rfl (hml.trans C'.2.2.2.1.symm) (Steps.refl _) (a := a) qa qb (argsL := argsL) (rest := st) hlen rfl (by show 2 * 0 + _ ≤ _; omega) (hb C'.2.2.1 hd) (fun _ _ => ⟨rfl, rfl, by show T.heap.size - s.heap.size + _ ≤ _; omega, by show slots + _ ≤ _; omega⟩)
  dsimp only [Pt.U, Pt.locs, Pt.cells, Pt.slots] at X' e1 e2 e3 stp hq
  subst e1 e2 e3
  obtain ⟨H', q1, q2, q3⟩ := hq
  obtain ⟨U, o, h1, h2⟩ := hr v H' q1 p e s m args below meth c C' U' _ _ _ X' (Fr.app N q3) q2 (by omega)
  exact ⟨U, o, stp.trans h1, h2⟩
theorem callF {a : Addr} {C : String} {count : Nat} (hfa : (Jvm.Cond.interfaceMethod y'.cls y'.cls y'.name y'.desc).faceAtom = true) (hd : decode bytes pc = .ok (.invokeinterface index count, 5)) (w1 : (Jvm.Cond.methodLink y.cls index y').before a0 Z = true) (w2 : (Jvm.Cond.declares y').before a0 Z = true) (wf : (Jvm.Cond.interfaceMethod y'.cls y'.cls y'.name y'.desc).before a0 Z = true) (w5 : (Jvm.Cond.selects C y' z').before a0 Z = true) (w6 : (Jvm.Cond.instanceMethod z').before a0 Z = true) (wp : (Jvm.Cond.publicMethod z').before a0 Z = true) (wu : (Jvm.Cond.unhidden C y'.name y'.desc).before a0 Z = true) (wc : (Jvm.Cond.castable C y'.cls).before a0 Z = true) (w3 : (Jvm.Cond.initialized z'.cls).before a0 Z = true) (w4 : (Jvm.Cond.code z' bytes' ml' ret').before a0 Z = true) (hy : y'.cls ≠ "java/lang/invoke/MethodHandle" ∧ y'.cls ≠ "java/lang/invoke/VarHandle") (hlen : ∀ sig, parseMethodDescriptor y'.desc = some sig → argsL.length = sig.parameters.length)
    (E : ∀ h, Hp Z hB h H → Exa Z h a C) (hC : Ctr l Z hB z' bytes' ml' ret' [] rm (.ref a :: argsL).toArray H Q') (hml : Ls.size = ml) (hfr : rm.frames + 1 ≤ R.frames) (hlo : (st.map fun v => v.category).sum + (ml' + 11) + rm.locals ≤ R.locals) (hcl : H.length + rm.cells ≤ n1 + R.cells) (hsl : sl + rm.slots ≤ R.slots) (hst : argsL.reverse ++ .ref a :: st = st0) (hp : pc + 5 = pc')
    (hr : ∀ v H', Q' v H' → WP l Z hB y bytes ml ret R n1 Q (sl + rm.slots) H' pc' Ls (v.toList ++ st)) : WP l Z hB y bytes ml ret R n1 Q sl H pc Ls st0 := by
  subst hp; subst hst
  intro p e s m args below meth c C' T locs cells slots X N P hs
  have hsz := C'.2.2.2.2.2.2.2.2
  have hp1 := P.1
  have hz : T.heap.size = s.heap.size + (T.heap.size - s.heap.size) := by have := X.same.2.1; have : s.heap.size ≤ T.heap.size := this; omega
  obtain ⟨cq, kq, qa, qb, qc⟩ := isOf (s := s) (T := T) C'.2.1 rfl (E _ P)
  obtain ⟨v, vm1, ⟨U', ls, cc, ss⟩, -, X', ⟨L, hq, e1, e2, e3⟩, stp⟩ := (exact' X (Nat.le_of_eq hz)).interfaceBack C'.1 (xi := y') (y := z') C'.2.2.2.2.1 (mvT C'.2.1 w1) (mvT C'.2.1 w2) (mvT C'.2.1 wf (by simp [Cond.onTables, Cond.keepsFace, Cond.keeps, Cond.steady, hfa])) (mvT C'.2.1 w5) (mvT C'.2.1 w6) (mvT C'.2.1 wp) (mvT C'.2.1 wu) (mvT C'.2.1 wc) hy (mkBack (W := (st.map fun v => v.category).sum) hC P C'.2.1 w4 w3 hfr hlo) qa qb qc (g := mkF m pc Ls (argsL.reverse ++ .ref a :: st)) rfl (hml.trans C'.2.2.2.1.symm) (Steps.refl _) (argsL := argsL) (rest := st) hlen rfl (by show 2 * 0 + _ ≤ _; omega) (hb C'.2.2.1 hd) (fun _ _ => ⟨rfl, rfl, by show T.heap.size - s.heap.size + _ ≤ _; omega, by show slots + _ ≤ _; omega⟩)
  dsimp only [Pt.U, Pt.locs, Pt.cells, Pt.slots] at X' e1 e2 e3 stp hq
  subst e1 e2 e3
  obtain ⟨H', q1, q2, q3⟩ := hq
  obtain ⟨U, o, h1, h2⟩ := hr v H' q1 p e s m args below meth c C' U' _ _ _ X' (Fr.app N q3) q2 (by omega)
  exact ⟨U, o, stp.trans h1, h2⟩
end Calls
theorem gsE {H : List Rec} {i : Nat} {r r' : Rec} (h : H[i]? = some r) : (H.set i r')[i]? = some r' := by
  have := (List.getElem?_eq_some_iff.mp h).1
  simp [List.getElem?_set, this]
theorem gsN {H : List Rec} {i j : Nat} {r r' : Rec} (hn : j ≠ i) (h : H[i]? = some r) : (H.set j r')[i]? = some r := by rw [List.getElem?_set_ne hn]; exact h
theorem gaL {H : List Rec} {i : Nat} {r r' : Rec} (h : H[i]? = some r) : (H ++ [r'])[i]? = some r := by
  have := (List.getElem?_eq_some_iff.mp h).1
  rw [List.getElem?_append_left this]; exact h
theorem gaR {H : List Rec} {i : Nat} {r : Rec} (h : H.length = i) : (H ++ [r])[i]? = some r := by subst h; simp
theorem saR {H : List Rec} {a b : Rec} : (H ++ [a]).set H.length b = H ++ [b] := by simp
theorem gaA {H M : List Rec} {i : Nat} {r : Rec} (h : H[i]? = some r) : (H ++ M)[i]? = some r := by
  have := (List.getElem?_eq_some_iff.mp h).1
  rw [List.getElem?_append_left this]; exact h
theorem gaB {H M : List Rec} {k : Nat} {r : Rec} (h : M[k]? = some r) : (H ++ M)[H.length + k]? = some r := by
  rw [List.getElem?_append_right (by omega), show H.length + k - H.length = k from by omega]; exact h
theorem saB {H M : List Rec} {k : Nat} {r : Rec} : (H ++ M).set (H.length + k) r = H ++ M.set k r := by
  rw [List.set_append_right _ _ (by omega), show H.length + k - H.length = k from by omega]
theorem distK {C : String} {ks : List Key} (hl : ∀ (i : Nat) (k : Key), ks[i]? = some k → Laid Z a0 C k.1 k.2.1 k.2.2) (hn : (ks.map fun k => k.2.1).Nodup) (hd : (ks.all fun k => (parseFieldDescriptor k.2.2).isSome) = true) : ∀ (i j : Nat) (k k' : Key), ks[i]? = some k → ks[j]? = some k' → i ≠ j → kslot Z k ≠ kslot Z k' := by
  intro i j k k' h1 h2 hne
  obtain ⟨l1, g1⟩ := List.getElem?_eq_some_iff.mp h1
  obtain ⟨l2, g2⟩ := List.getElem?_eq_some_iff.mp h2
  have p1 := List.all_eq_true.mp hd k (List.mem_of_getElem? h1)
  have p2 := List.all_eq_true.mp hd k' (List.mem_of_getElem? h2)
  obtain ⟨t1, q1⟩ := Option.isSome_iff_exists.mp p1
  obtain ⟨t2, q2⟩ := Option.isSome_iff_exists.mp p2
  refine slot_ne (hl i k h1) (hl j k' h2) (fun e => hne ?_) q1 q2
  have hp := List.pairwise_iff_getElem.mp hn
  rcases Nat.lt_trichotomy i j with z | z | z
  · exact (hp i j (by simpa using l1) (by simpa using l2) z (by rw [List.getElem_map, List.getElem_map, g1, g2, e])).elim
  · exact z
  · exact (hp j i (by simpa using l2) (by simpa using l1) z (by rw [List.getElem_map, List.getElem_map, g1, g2, e])).elim
end Walk
section Start
variable {args : Array Value} {Z : State}
theorem exaOf {t : Term} {C : String} (h : (Jvm.Cond.exactly t C).value args Z none Z [] = some true) : ∃ a, t.eval args Z none [] Z = some (.ref a) ∧ Exa Z Z.heap a C := by
  obtain ⟨a, ha⟩ := exa_v h
  exact ⟨a, ha, Exa.start ha h⟩
theorem fldInt {t : Term} {C n d : String} {a : Addr} {k : Int32} (ha : t.eval args Z none [] Z = some (.ref a)) (h : (Jvm.Cond.eq (.field t C n d) (.int k)).value args Z none Z [] = some true) : Fld Z Z.heap a C n d (.int k) := by
  have e : (Term.field t C n d).eval args Z none [] Z = Z.fieldOf? a C n d := fld_at ha
  cases hf : Z.fieldOf? a C n d with
  | none => simp [Cond.value, e, hf] at h
  | some v =>
    have q : v = .int k := by cases v <;> simp [Cond.value, e, hf] at h <;> simp [Term.eval] at h; rw [h]
    exact q ▸ Fld.start hf
theorem subF {first s : State} {o : Option Outcome} {idx : List Nat} {a b : Term} {x y : Int32} (ha : a.eval args first o idx s = some (.int x)) (hb : b.eval args first o idx s = some (.int y)) : (Term.sub a b).eval args first o idx s = some (.int (x - y)) := by simp [Term.eval, ha, hb]
theorem fldV {t : Term} {C n d : String} {a : Addr} {v : Value} (ha : t.eval args Z none [] Z = some (.ref a)) (h : (Term.field t C n d).eval args Z none [] Z = some v) : Fld Z Z.heap a C n d v := Fld.start ((fld_at ha).symm.trans h)
theorem eqvR {X F : Term} {a : Addr} (hF : F.eval args Z none [] Z = some (.ref a)) (h : (Jvm.Cond.eq X F).value args Z none Z [] = some true) : X.eval args Z none [] Z = some (.ref a) := by
  cases hx : X.eval args Z none [] Z with
  | none => simp [Cond.value, hx] at h
  | some v => cases v <;> simp [Cond.value, hx, hF] at h <;> simp [h]
theorem exaNe {h : Heap} {a b : Addr} {C D : String} (A : Exa Z h a C) (B : Exa Z h b D) (hn : C ≠ D) : ¬ (Value.ref a = Value.ref b) := fun e => by
  cases e
  obtain ⟨c, k, e1, e2, e3, -⟩ := A
  obtain ⟨c', k', f1, f2, f3, -⟩ := B
  cases e1.symm.trans f1
  exact ids_ne e2 f2 hn rfl
theorem lenOfT {t : Term} {a : Addr} {cl : Cell} {k : Int32} (ht : t.eval args Z none [] Z = some (.ref a)) (ha : Z.arrayAt? a = some cl) (h : (Jvm.Cond.eq (.length t) (.int k)).value args Z none Z [] = some true) : cl.slots.size < 2 ^ 31 ∧ cl.slots.size.toInt32 = k := by
  have e := eqv_i (show (Term.int k).eval args Z none [] Z = some (.int k) from rfl) h
  by_cases hl : cl.slots.size < 2 ^ 31
  · exact ⟨hl, Value.int.inj (Option.some.inj ((len_f ht ha hl).symm.trans e))⟩
  · simp [Term.eval, ht, ha] at e; omega
theorem elemI {t : Term} {a : Addr} {cl : Cell} {j k : Int32} (ht : t.eval args Z none [] Z = some (.ref a)) (ha : Z.arrayAt? a = some cl) (hj : ¬ j < 0) (h : (Jvm.Cond.eq (.elem t (.int j)) (.int k)).value args Z none Z [] = some true) : cl.slots[j.toNatClampNeg]? = some (.int k) :=
  (elem_f (a := .int j) ht (show (Term.int j).eval args Z none [] Z = some (.int j) from rfl) ha hj).symm.trans (eqv_i (show (Term.int k).eval args Z none [] Z = some (.int k) from rfl) h)
theorem nsRoot {a0 : Array Value} {O K : String} {n : Nat} (w : (Jvm.Cond.noSuperclass O).before a0 Z = true) (wi : (Jvm.Cond.instantiable K n).before a0 Z = true) (hn : O ≠ K) : NS Z O K := by
  obtain ⟨c, k, h1, h2, h3, -, -⟩ := Cond.noSuperclass_spec w
  obtain ⟨t, kt, g1, -⟩ := Cond.instantiable_spec wi
  have ne := ids_ne h1 g1 hn
  refine ⟨c, t, h1, g1, fun fuel => ?_⟩
  cases fuel with
  | zero => rfl
  | succ f => simp [Vm.isSubclassAux, ne, h2, h3]
theorem nsNo {a0 : Array Value} {C S K : String} {n : Nat} (w : (Jvm.Cond.superclass C S).before a0 Z = true) (wi : (Jvm.Cond.instantiable K n).before a0 Z = true) (q : NS Z C K) (hn : C ≠ K) : ∃ c t, Z.vm.findClass C = some c ∧ Z.vm.findClass K = some t ∧ Z.vm.assignable c t = false := by
  obtain ⟨c, t, h0, g0, n3⟩ := q
  obtain ⟨p, k, kp, h1, h2, h3, h4, h5, -, h7⟩ := Cond.superclass_spec h0 w
  obtain ⟨t', kt, g1, g2, g3, g4, -⟩ := Cond.instantiable_spec wi
  cases g0.symm.trans g1
  have ne := ids_ne h0 g0 hn
  simp only [Bool.or_eq_false_iff] at g4
  refine ⟨c, t, h0, g0, ?_⟩
  show Z.vm.assignableAux (255 + 1) c t = false
  simp [Vm.assignableAux, ne, h2, g2, h5, g3, g4.1, Vm.isSubclass, n3]
end Start
end Jvm.Wk
namespace Jvm.Pilot.@@N@@
open Jvm Jvm.ClassFile Sem Op Lib Jvm.Free Jvm.Stand Jvm.LawKit Jvm.RoadKit Bundle Jvm.Pilot.@@N@@.Jvm.D
open Jvm.Wk (obj arr ints longs rf Rec Key kslot RecAt Hp WP Ctr gsE gsN gaL gaR distK)
theorem pn_0 : plainFor ({ cls := "java/lang/Integer", name := "valueOf", desc := "(I)Ljava/lang/Integer;" } : Jvm.MethodName) = true := by first | decide +kernel | exact plainFor_of_name (by first | (simp [plainName, overriddenIn]; done) | decide +kernel)
theorem pn_1 : plainFor ({ cls := "com/example/dissect/dissect/RecentPlaces", name := "<init>", desc := "(I)V" } : Jvm.MethodName) = true := by first | decide +kernel | exact plainFor_of_name (by first | (simp [plainName, overriddenIn]; done) | decide +kernel)
theorem pn_2 : plainFor ({ cls := "com/example/dissect/dissect/RecentPlaces", name := "put", desc := "(II)V" } : Jvm.MethodName) = true := by first | decide +kernel | exact plainFor_of_name (by first | (simp [plainName, overriddenIn]; done) | decide +kernel)
theorem pn_3 : plainFor ({ cls := "com/example/dissect/dissect/RecentPlaces", name := "putAt", desc := "(I)I" } : Jvm.MethodName) = true := by first | decide +kernel | exact plainFor_of_name (by first | (simp [plainName, overriddenIn]; done) | decide +kernel)
theorem pn_4 : plainFor ({ cls := "com/example/dissect/dissect/RecentPlacesPutPinLaw", name := "lastOf", desc := "(IIIII)I" } : Jvm.MethodName) = true := by first | decide +kernel | exact plainFor_of_name (by first | (simp [plainName, overriddenIn]; done) | decide +kernel)
theorem pn_5 : plainFor ({ cls := "com/example/dissect/dissect/RecentPlacesPutPinLaw", name := "expMoment", desc := "(IIIIIIIII)I" } : Jvm.MethodName) = true := by first | decide +kernel | exact plainFor_of_name (by first | (simp [plainName, overriddenIn]; done) | decide +kernel)
theorem pn_6 : plainFor ({ cls := "java/util/AbstractCollection", name := "<init>", desc := "()V" } : Jvm.MethodName) = true := by first | decide +kernel | exact plainFor_of_name (by first | (simp [plainName, overriddenIn]; done) | decide +kernel)
theorem pn_7 : plainFor ({ cls := "java/util/AbstractList", name := "<init>", desc := "()V" } : Jvm.MethodName) = true := by first | decide +kernel | exact plainFor_of_name (by first | (simp [plainName, overriddenIn]; done) | decide +kernel)
theorem pn_8 : plainFor ({ cls := "java/util/ArrayList", name := "<init>", desc := "(I)V" } : Jvm.MethodName) = true := by first | decide +kernel | exact plainFor_of_name (by first | (simp [plainName, overriddenIn]; done) | decide +kernel)
theorem pn_9 : plainFor ({ cls := "java/lang/Math", name := "min", desc := "(II)I" } : Jvm.MethodName) = true := by first | decide +kernel | exact plainFor_of_name (by first | (simp [plainName, overriddenIn]; done) | decide +kernel)
theorem pn_10 : plainFor ({ cls := "java/lang/Math", name := "max", desc := "(II)I" } : Jvm.MethodName) = true := by first | decide +kernel | exact plainFor_of_name (by first | (simp [plainName, overriddenIn]; done) | decide +kernel)
theorem pn_11 : plainFor ({ cls := "jdk/internal/util/ArraysSupport", name := "newLength", desc := "(III)I" } : Jvm.MethodName) = true := by first | decide +kernel | exact plainFor_of_name (by first | (simp [plainName, overriddenIn]; done) | decide +kernel)
theorem pn_12 : plainFor ({ cls := "java/util/Arrays", name := "copyOf", desc := "([Ljava/lang/Object;ILjava/lang/Class;)[Ljava/lang/Object;" } : Jvm.MethodName) = true := by first | decide +kernel | exact plainFor_of_name (by first | (simp [plainName, overriddenIn]; done) | decide +kernel)
theorem pn_13 : plainFor ({ cls := "java/util/Arrays", name := "copyOf", desc := "([Ljava/lang/Object;I)[Ljava/lang/Object;" } : Jvm.MethodName) = true := by first | decide +kernel | exact plainFor_of_name (by first | (simp [plainName, overriddenIn]; done) | decide +kernel)
theorem pn_14 : plainFor ({ cls := "java/util/ArrayList", name := "grow", desc := "(I)[Ljava/lang/Object;" } : Jvm.MethodName) = true := by first | decide +kernel | exact plainFor_of_name (by first | (simp [plainName, overriddenIn]; done) | decide +kernel)
theorem pn_15 : plainFor ({ cls := "java/util/ArrayList", name := "grow", desc := "()[Ljava/lang/Object;" } : Jvm.MethodName) = true := by first | decide +kernel | exact plainFor_of_name (by first | (simp [plainName, overriddenIn]; done) | decide +kernel)
theorem pn_16 : plainFor ({ cls := "java/util/ArrayList", name := "add", desc := "(Ljava/lang/Object;[Ljava/lang/Object;I)V" } : Jvm.MethodName) = true := by first | decide +kernel | exact plainFor_of_name (by first | (simp [plainName, overriddenIn]; done) | decide +kernel)
theorem pn_17 : plainFor ({ cls := "java/util/ArrayList", name := "add", desc := "(Ljava/lang/Object;)Z" } : Jvm.MethodName) = true := by first | decide +kernel | exact plainFor_of_name (by first | (simp [plainName, overriddenIn]; done) | decide +kernel)
theorem pn_18 : plainFor ({ cls := "com/example/dissect/dissect/RecentPlaces", name := "since", desc := "(I)Ljava/util/List;" } : Jvm.MethodName) = true := by first | decide +kernel | exact plainFor_of_name (by first | (simp [plainName, overriddenIn]; done) | decide +kernel)
theorem pn_19 : plainFor ({ cls := "java/util/ArrayList", name := "size", desc := "()I" } : Jvm.MethodName) = true := by first | decide +kernel | exact plainFor_of_name (by first | (simp [plainName, overriddenIn]; done) | decide +kernel)
theorem pn_20 : plainFor ({ cls := "jdk/internal/util/Preconditions", name := "checkIndex", desc := "(IILjava/util/function/BiFunction;)I" } : Jvm.MethodName) = true := by first | decide +kernel | exact plainFor_of_name (by first | (simp [plainName, overriddenIn]; done) | decide +kernel)
theorem pn_21 : plainFor ({ cls := "java/util/Objects", name := "checkIndex", desc := "(II)I" } : Jvm.MethodName) = true := by first | decide +kernel | exact plainFor_of_name (by first | (simp [plainName, overriddenIn]; done) | decide +kernel)
theorem pn_22 : plainFor ({ cls := "java/util/ArrayList", name := "elementData", desc := "(I)Ljava/lang/Object;" } : Jvm.MethodName) = true := by first | decide +kernel | exact plainFor_of_name (by first | (simp [plainName, overriddenIn]; done) | decide +kernel)
theorem pn_23 : plainFor ({ cls := "java/util/ArrayList", name := "get", desc := "(I)Ljava/lang/Object;" } : Jvm.MethodName) = true := by first | decide +kernel | exact plainFor_of_name (by first | (simp [plainName, overriddenIn]; done) | decide +kernel)
theorem pn_24 : plainFor ({ cls := "java/lang/Integer", name := "intValue", desc := "()I" } : Jvm.MethodName) = true := by first | decide +kernel | exact plainFor_of_name (by first | (simp [plainName, overriddenIn]; done) | decide +kernel)
theorem pn_25 : plainFor ({ cls := "com/example/dissect/dissect/RecentPlacesPutPinLaw", name := "step", desc := "(Ljava/util/List;IIIIII)I" } : Jvm.MethodName) = true := by first | decide +kernel | exact plainFor_of_name (by first | (simp [plainName, overriddenIn]; done) | decide +kernel)
theorem pn_26 : plainFor ({ cls := "com/example/dissect/dissect/RecentPlacesPutPinLaw", name := "law", desc := "(IIII)Z" } : Jvm.MethodName) = true := by first | decide +kernel | exact plainFor_of_name (by first | (simp [plainName, overriddenIn]; done) | decide +kernel)
theorem pd_0 : parseMethodDescriptor "()V" = some ⟨[], none⟩ := by decide +kernel
theorem pd_1 : parseMethodDescriptor "(II)I" = some ⟨[.int, .int], some .int⟩ := by decide +kernel
theorem pd_2 : parseMethodDescriptor "([Ljava/lang/Object;ILjava/lang/Class;)[Ljava/lang/Object;" = some ⟨[(.array (.object "java/lang/Object")), .int, (.object "java/lang/Class")], some (.array (.object "java/lang/Object"))⟩ := by decide +kernel
theorem pd_3 : parseMethodDescriptor "(III)I" = some ⟨[.int, .int, .int], some .int⟩ := by decide +kernel
theorem pd_4 : parseMethodDescriptor "([Ljava/lang/Object;I)[Ljava/lang/Object;" = some ⟨[(.array (.object "java/lang/Object")), .int], some (.array (.object "java/lang/Object"))⟩ := by decide +kernel
theorem pd_5 : parseMethodDescriptor "(I)[Ljava/lang/Object;" = some ⟨[.int], some (.array (.object "java/lang/Object"))⟩ := by decide +kernel
theorem pd_6 : parseMethodDescriptor "(Ljava/lang/Object;[Ljava/lang/Object;I)V" = some ⟨[(.object "java/lang/Object"), (.array (.object "java/lang/Object")), .int], none⟩ := by decide +kernel
theorem pd_7 : parseMethodDescriptor "()[Ljava/lang/Object;" = some ⟨[], some (.array (.object "java/lang/Object"))⟩ := by decide +kernel
theorem pd_8 : parseMethodDescriptor "(I)Ljava/lang/Integer;" = some ⟨[.int], some (.object "java/lang/Integer")⟩ := by decide +kernel
theorem pd_9 : parseMethodDescriptor "(Ljava/lang/Object;)Z" = some ⟨[(.object "java/lang/Object")], some .boolean⟩ := by decide +kernel
theorem pd_10 : parseMethodDescriptor "(I)V" = some ⟨[.int], none⟩ := by decide +kernel
theorem pd_11 : parseMethodDescriptor "(IILjava/util/function/BiFunction;)I" = some ⟨[.int, .int, (.object "java/util/function/BiFunction")], some .int⟩ := by decide +kernel
theorem pd_12 : parseMethodDescriptor "(I)Ljava/lang/Object;" = some ⟨[.int], some (.object "java/lang/Object")⟩ := by decide +kernel
theorem pd_13 : parseMethodDescriptor "()I" = some ⟨[], some .int⟩ := by decide +kernel
theorem pd_14 : parseMethodDescriptor "(IIIII)I" = some ⟨[.int, .int, .int, .int, .int], some .int⟩ := by decide +kernel
theorem pd_15 : parseMethodDescriptor "(II)V" = some ⟨[.int, .int], none⟩ := by decide +kernel
theorem pd_16 : parseMethodDescriptor "(IIIIIIIII)I" = some ⟨[.int, .int, .int, .int, .int, .int, .int, .int, .int], some .int⟩ := by decide +kernel
theorem pd_17 : parseMethodDescriptor "(I)Ljava/util/List;" = some ⟨[.int], some (.object "java/util/List")⟩ := by decide +kernel
theorem pd_18 : parseMethodDescriptor "(Ljava/util/List;IIIIII)I" = some ⟨[(.object "java/util/List"), .int, .int, .int, .int, .int, .int], some .int⟩ := by decide +kernel
theorem pd_19 : parseMethodDescriptor "(I)I" = some ⟨[.int], some .int⟩ := by decide +kernel
theorem d0_0 : decode prog_102_method_1_code 0 = .ok (.aload_n 0, 1) := by decide +kernel
theorem d0_1 : decode prog_102_method_1_code 1 = .ok (.invokespecial 1, 3) := by decide +kernel
theorem d0_4 : decode prog_102_method_1_code 4 = .ok (.aload_n 0, 1) := by decide +kernel
theorem d0_5 : decode prog_102_method_1_code 5 = .ok (.iconst (-1), 1) := by decide +kernel
theorem d0_6 : decode prog_102_method_1_code 6 = .ok (.putfield 7, 3) := by decide +kernel
theorem d0_9 : decode prog_102_method_1_code 9 = .ok (.aload_n 0, 1) := by decide +kernel
theorem d0_10 : decode prog_102_method_1_code 10 = .ok (.iload_n 1, 1) := by decide +kernel
theorem d0_11 : decode prog_102_method_1_code 11 = .ok (.newarray .int, 2) := by decide +kernel
theorem d0_13 : decode prog_102_method_1_code 13 = .ok (.putfield 13, 3) := by decide +kernel
theorem d0_16 : decode prog_102_method_1_code 16 = .ok (.aload_n 0, 1) := by decide +kernel
theorem d0_17 : decode prog_102_method_1_code 17 = .ok (.iload_n 1, 1) := by decide +kernel
theorem d0_18 : decode prog_102_method_1_code 18 = .ok (.newarray .int, 2) := by decide +kernel
theorem d0_20 : decode prog_102_method_1_code 20 = .ok (.putfield 17, 3) := by decide +kernel
theorem d0_23 : decode prog_102_method_1_code 23 = .ok (.aload_n 0, 1) := by decide +kernel
theorem d0_24 : decode prog_102_method_1_code 24 = .ok (.iload_n 1, 1) := by decide +kernel
theorem d0_25 : decode prog_102_method_1_code 25 = .ok (.newarray .int, 2) := by decide +kernel
theorem d0_27 : decode prog_102_method_1_code 27 = .ok (.putfield 20, 3) := by decide +kernel
theorem d0_30 : decode prog_102_method_1_code 30 = .ok (.return_, 1) := by decide +kernel
theorem d2_0 : decode prog_102_method_2_code 0 = .ok (.iload_n 1, 1) := by decide +kernel
theorem d2_1 : decode prog_102_method_2_code 1 = .ok (.aload_n 0, 1) := by decide +kernel
theorem d2_2 : decode prog_102_method_2_code 2 = .ok (.getfield 7, 3) := by decide +kernel
theorem d2_5 : decode prog_102_method_2_code 5 = .ok (.if_icmp .eq 94, 3) := by decide +kernel
theorem d2_8 : decode prog_102_method_2_code 8 = .ok (.aload_n 0, 1) := by decide +kernel
theorem d2_9 : decode prog_102_method_2_code 9 = .ok (.getfield 20, 3) := by decide +kernel
theorem d2_12 : decode prog_102_method_2_code 12 = .ok (.iload_n 1, 1) := by decide +kernel
theorem d2_13 : decode prog_102_method_2_code 13 = .ok (.iaload, 1) := by decide +kernel
theorem d2_14 : decode prog_102_method_2_code 14 = .ok (.ifCond .le 46, 3) := by decide +kernel
theorem d2_17 : decode prog_102_method_2_code 17 = .ok (.aload_n 0, 1) := by decide +kernel
theorem d2_18 : decode prog_102_method_2_code 18 = .ok (.getfield 13, 3) := by decide +kernel
theorem d2_21 : decode prog_102_method_2_code 21 = .ok (.aload_n 0, 1) := by decide +kernel
theorem d2_22 : decode prog_102_method_2_code 22 = .ok (.getfield 17, 3) := by decide +kernel
theorem d2_25 : decode prog_102_method_2_code 25 = .ok (.iload_n 1, 1) := by decide +kernel
theorem d2_26 : decode prog_102_method_2_code 26 = .ok (.iaload, 1) := by decide +kernel
theorem d2_27 : decode prog_102_method_2_code 27 = .ok (.aload_n 0, 1) := by decide +kernel
theorem d2_28 : decode prog_102_method_2_code 28 = .ok (.getfield 13, 3) := by decide +kernel
theorem d2_31 : decode prog_102_method_2_code 31 = .ok (.iload_n 1, 1) := by decide +kernel
theorem d2_32 : decode prog_102_method_2_code 32 = .ok (.iaload, 1) := by decide +kernel
theorem d2_33 : decode prog_102_method_2_code 33 = .ok (.iastore, 1) := by decide +kernel
theorem d2_34 : decode prog_102_method_2_code 34 = .ok (.aload_n 0, 1) := by decide +kernel
theorem d2_35 : decode prog_102_method_2_code 35 = .ok (.getfield 13, 3) := by decide +kernel
theorem d2_38 : decode prog_102_method_2_code 38 = .ok (.iload_n 1, 1) := by decide +kernel
theorem d2_39 : decode prog_102_method_2_code 39 = .ok (.iaload, 1) := by decide +kernel
theorem d2_40 : decode prog_102_method_2_code 40 = .ok (.ifCond .lt 20, 3) := by decide +kernel
theorem d2_43 : decode prog_102_method_2_code 43 = .ok (.aload_n 0, 1) := by decide +kernel
theorem d2_44 : decode prog_102_method_2_code 44 = .ok (.getfield 17, 3) := by decide +kernel
theorem d2_47 : decode prog_102_method_2_code 47 = .ok (.aload_n 0, 1) := by decide +kernel
theorem d2_48 : decode prog_102_method_2_code 48 = .ok (.getfield 13, 3) := by decide +kernel
theorem d2_51 : decode prog_102_method_2_code 51 = .ok (.iload_n 1, 1) := by decide +kernel
theorem d2_52 : decode prog_102_method_2_code 52 = .ok (.iaload, 1) := by decide +kernel
theorem d2_53 : decode prog_102_method_2_code 53 = .ok (.aload_n 0, 1) := by decide +kernel
theorem d2_54 : decode prog_102_method_2_code 54 = .ok (.getfield 17, 3) := by decide +kernel
theorem d2_57 : decode prog_102_method_2_code 57 = .ok (.iload_n 1, 1) := by decide +kernel
theorem d2_58 : decode prog_102_method_2_code 58 = .ok (.iaload, 1) := by decide +kernel
theorem d2_59 : decode prog_102_method_2_code 59 = .ok (.iastore, 1) := by decide +kernel
theorem d2_60 : decode prog_102_method_2_code 60 = .ok (.aload_n 0, 1) := by decide +kernel
theorem d2_61 : decode prog_102_method_2_code 61 = .ok (.getfield 13, 3) := by decide +kernel
theorem d2_64 : decode prog_102_method_2_code 64 = .ok (.iload_n 1, 1) := by decide +kernel
theorem d2_65 : decode prog_102_method_2_code 65 = .ok (.aload_n 0, 1) := by decide +kernel
theorem d2_66 : decode prog_102_method_2_code 66 = .ok (.getfield 7, 3) := by decide +kernel
theorem d2_69 : decode prog_102_method_2_code 69 = .ok (.iastore, 1) := by decide +kernel
theorem d2_70 : decode prog_102_method_2_code 70 = .ok (.aload_n 0, 1) := by decide +kernel
theorem d2_71 : decode prog_102_method_2_code 71 = .ok (.getfield 17, 3) := by decide +kernel
theorem d2_74 : decode prog_102_method_2_code 74 = .ok (.iload_n 1, 1) := by decide +kernel
theorem d2_75 : decode prog_102_method_2_code 75 = .ok (.iconst (-1), 1) := by decide +kernel
theorem d2_76 : decode prog_102_method_2_code 76 = .ok (.iastore, 1) := by decide +kernel
theorem d2_77 : decode prog_102_method_2_code 77 = .ok (.aload_n 0, 1) := by decide +kernel
theorem d2_78 : decode prog_102_method_2_code 78 = .ok (.getfield 7, 3) := by decide +kernel
theorem d2_81 : decode prog_102_method_2_code 81 = .ok (.ifCond .lt 13, 3) := by decide +kernel
theorem d2_84 : decode prog_102_method_2_code 84 = .ok (.aload_n 0, 1) := by decide +kernel
theorem d2_85 : decode prog_102_method_2_code 85 = .ok (.getfield 17, 3) := by decide +kernel
theorem d2_88 : decode prog_102_method_2_code 88 = .ok (.aload_n 0, 1) := by decide +kernel
theorem d2_89 : decode prog_102_method_2_code 89 = .ok (.getfield 7, 3) := by decide +kernel
theorem d2_92 : decode prog_102_method_2_code 92 = .ok (.iload_n 1, 1) := by decide +kernel
theorem d2_93 : decode prog_102_method_2_code 93 = .ok (.iastore, 1) := by decide +kernel
theorem d2_94 : decode prog_102_method_2_code 94 = .ok (.aload_n 0, 1) := by decide +kernel
theorem d2_95 : decode prog_102_method_2_code 95 = .ok (.iload_n 1, 1) := by decide +kernel
theorem d2_96 : decode prog_102_method_2_code 96 = .ok (.putfield 7, 3) := by decide +kernel
theorem d2_99 : decode prog_102_method_2_code 99 = .ok (.aload_n 0, 1) := by decide +kernel
theorem d2_100 : decode prog_102_method_2_code 100 = .ok (.getfield 20, 3) := by decide +kernel
theorem d2_103 : decode prog_102_method_2_code 103 = .ok (.iload_n 1, 1) := by decide +kernel
theorem d2_104 : decode prog_102_method_2_code 104 = .ok (.iload_n 2, 1) := by decide +kernel
theorem d2_105 : decode prog_102_method_2_code 105 = .ok (.iastore, 1) := by decide +kernel
theorem d2_106 : decode prog_102_method_2_code 106 = .ok (.return_, 1) := by decide +kernel
theorem d3_0 : decode method_3_code 0 = .ok (.iload 4, 2) := by decide +kernel
theorem d3_2 : decode method_3_code 2 = .ok (.iload_n 0, 1) := by decide +kernel
theorem d3_3 : decode method_3_code 3 = .ok (.if_icmp .ne 6, 3) := by decide +kernel
theorem d3_6 : decode method_3_code 6 = .ok (.iload 8, 2) := by decide +kernel
theorem d3_8 : decode method_3_code 8 = .ok (.ireturn, 1) := by decide +kernel
theorem d3_9 : decode method_3_code 9 = .ok (.iload_n 3, 1) := by decide +kernel
theorem d3_10 : decode method_3_code 10 = .ok (.iload_n 0, 1) := by decide +kernel
theorem d3_11 : decode method_3_code 11 = .ok (.if_icmp .ne 6, 3) := by decide +kernel
theorem d3_14 : decode method_3_code 14 = .ok (.iload 7, 2) := by decide +kernel
theorem d3_16 : decode method_3_code 16 = .ok (.ireturn, 1) := by decide +kernel
theorem d3_17 : decode method_3_code 17 = .ok (.iload_n 2, 1) := by decide +kernel
theorem d3_18 : decode method_3_code 18 = .ok (.iload_n 0, 1) := by decide +kernel
theorem d3_19 : decode method_3_code 19 = .ok (.if_icmp .ne 6, 3) := by decide +kernel
theorem d3_22 : decode method_3_code 22 = .ok (.iload 6, 2) := by decide +kernel
theorem d3_24 : decode method_3_code 24 = .ok (.ireturn, 1) := by decide +kernel
theorem d3_25 : decode method_3_code 25 = .ok (.iload_n 1, 1) := by decide +kernel
theorem d3_26 : decode method_3_code 26 = .ok (.iload_n 0, 1) := by decide +kernel
theorem d3_27 : decode method_3_code 27 = .ok (.if_icmp .ne 6, 3) := by decide +kernel
theorem d3_30 : decode method_3_code 30 = .ok (.iload 5, 2) := by decide +kernel
theorem d3_32 : decode method_3_code 32 = .ok (.ireturn, 1) := by decide +kernel
theorem d3_33 : decode method_3_code 33 = .ok (.iconst 0, 1) := by decide +kernel
theorem d3_34 : decode method_3_code 34 = .ok (.ireturn, 1) := by decide +kernel
theorem d4_0 : decode prog_102_method_5_code 0 = .ok (.new 23, 3) := by decide +kernel
theorem d4_3 : decode prog_102_method_5_code 3 = .ok (.dup, 1) := by decide +kernel
theorem d4_4 : decode prog_102_method_5_code 4 = .ok (.iconst 1, 1) := by decide +kernel
theorem d4_5 : decode prog_102_method_5_code 5 = .ok (.invokespecial 25, 3) := by decide +kernel
theorem d4_8 : decode prog_102_method_5_code 8 = .ok (.astore_n 2, 1) := by decide +kernel
theorem d4_9 : decode prog_102_method_5_code 9 = .ok (.aload_n 0, 1) := by decide +kernel
theorem d4_10 : decode prog_102_method_5_code 10 = .ok (.getfield 7, 3) := by decide +kernel
theorem d4_13 : decode prog_102_method_5_code 13 = .ok (.istore_n 3, 1) := by decide +kernel
theorem d4_14 : decode prog_102_method_5_code 14 = .ok (.iload_n 3, 1) := by decide +kernel
theorem d4_15 : decode prog_102_method_5_code 15 = .ok (.ifCond .lt 34, 3) := by decide +kernel
theorem d4_18 : decode prog_102_method_5_code 18 = .ok (.aload_n 0, 1) := by decide +kernel
theorem d4_19 : decode prog_102_method_5_code 19 = .ok (.getfield 20, 3) := by decide +kernel
theorem d4_22 : decode prog_102_method_5_code 22 = .ok (.iload_n 3, 1) := by decide +kernel
theorem d4_23 : decode prog_102_method_5_code 23 = .ok (.iaload, 1) := by decide +kernel
theorem d4_24 : decode prog_102_method_5_code 24 = .ok (.iload_n 1, 1) := by decide +kernel
theorem d4_25 : decode prog_102_method_5_code 25 = .ok (.if_icmp .le 24, 3) := by decide +kernel
theorem d4_28 : decode prog_102_method_5_code 28 = .ok (.aload_n 2, 1) := by decide +kernel
theorem d4_29 : decode prog_102_method_5_code 29 = .ok (.iload_n 3, 1) := by decide +kernel
theorem d4_30 : decode prog_102_method_5_code 30 = .ok (.invokestatic 28, 3) := by decide +kernel
theorem d4_33 : decode prog_102_method_5_code 33 = .ok (.invokeinterface 34 2, 5) := by decide +kernel
theorem d4_38 : decode prog_102_method_5_code 38 = .ok (.pop, 1) := by decide +kernel
theorem d4_39 : decode prog_102_method_5_code 39 = .ok (.aload_n 0, 1) := by decide +kernel
theorem d4_40 : decode prog_102_method_5_code 40 = .ok (.getfield 13, 3) := by decide +kernel
theorem d4_43 : decode prog_102_method_5_code 43 = .ok (.iload_n 3, 1) := by decide +kernel
theorem d4_44 : decode prog_102_method_5_code 44 = .ok (.iaload, 1) := by decide +kernel
theorem d4_45 : decode prog_102_method_5_code 45 = .ok (.istore_n 3, 1) := by decide +kernel
theorem d4_46 : decode prog_102_method_5_code 46 = .ok (.goto (-32), 3) := by decide +kernel
theorem d4_49 : decode prog_102_method_5_code 49 = .ok (.aload_n 2, 1) := by decide +kernel
theorem d4_50 : decode prog_102_method_5_code 50 = .ok (.areturn, 1) := by decide +kernel
theorem d5_0 : decode jdk_38_method_1_code 0 = .ok (.aload_n 0, 1) := by decide +kernel
theorem d5_1 : decode jdk_38_method_1_code 1 = .ok (.invokespecial 1, 3) := by decide +kernel
theorem d5_4 : decode jdk_38_method_1_code 4 = .ok (.iload_n 1, 1) := by decide +kernel
theorem d5_5 : decode jdk_38_method_1_code 5 = .ok (.ifCond .le 14, 3) := by decide +kernel
theorem d5_8 : decode jdk_38_method_1_code 8 = .ok (.aload_n 0, 1) := by decide +kernel
theorem d5_9 : decode jdk_38_method_1_code 9 = .ok (.iload_n 1, 1) := by decide +kernel
theorem d5_10 : decode jdk_38_method_1_code 10 = .ok (.anewarray 7, 3) := by decide +kernel
theorem d5_13 : decode jdk_38_method_1_code 13 = .ok (.putfield 9, 3) := by decide +kernel
theorem d5_16 : decode jdk_38_method_1_code 16 = .ok (.goto 44, 3) := by decide +kernel
theorem d5_60 : decode jdk_38_method_1_code 60 = .ok (.return_, 1) := by decide +kernel
theorem d6_0 : decode jdk_39_method_1_code 0 = .ok (.aload_n 0, 1) := by decide +kernel
theorem d6_1 : decode jdk_39_method_1_code 1 = .ok (.invokespecial 1, 3) := by decide +kernel
theorem d6_4 : decode jdk_39_method_1_code 4 = .ok (.aload_n 0, 1) := by decide +kernel
theorem d6_5 : decode jdk_39_method_1_code 5 = .ok (.iconst 0, 1) := by decide +kernel
theorem d6_6 : decode jdk_39_method_1_code 6 = .ok (.putfield 7, 3) := by decide +kernel
theorem d6_9 : decode jdk_39_method_1_code 9 = .ok (.return_, 1) := by decide +kernel
theorem d7_0 : decode jdk_22_method_1_code 0 = .ok (.aload_n 0, 1) := by decide +kernel
theorem d7_1 : decode jdk_22_method_1_code 1 = .ok (.invokespecial 1, 3) := by decide +kernel
theorem d7_4 : decode jdk_22_method_1_code 4 = .ok (.return_, 1) := by decide +kernel
theorem d8_0 : decode jdk_33_method_22_code 0 = .ok (.iload_n 0, 1) := by decide +kernel
theorem d8_1 : decode jdk_33_method_22_code 1 = .ok (.bipush (-128), 2) := by decide +kernel
theorem d8_3 : decode jdk_33_method_22_code 3 = .ok (.if_icmp .lt 20, 3) := by decide +kernel
theorem d8_6 : decode jdk_33_method_22_code 6 = .ok (.iload_n 0, 1) := by decide +kernel
theorem d8_7 : decode jdk_33_method_22_code 7 = .ok (.getstatic 191, 3) := by decide +kernel
theorem d8_10 : decode jdk_33_method_22_code 10 = .ok (.if_icmp .gt 13, 3) := by decide +kernel
theorem d8_13 : decode jdk_33_method_22_code 13 = .ok (.getstatic 195, 3) := by decide +kernel
theorem d8_16 : decode jdk_33_method_22_code 16 = .ok (.iload_n 0, 1) := by decide +kernel
theorem d8_17 : decode jdk_33_method_22_code 17 = .ok (.sipush 128, 3) := by decide +kernel
theorem d8_20 : decode jdk_33_method_22_code 20 = .ok (.iadd, 1) := by decide +kernel
theorem d8_21 : decode jdk_33_method_22_code 21 = .ok (.aaload, 1) := by decide +kernel
theorem d8_22 : decode jdk_33_method_22_code 22 = .ok (.areturn, 1) := by decide +kernel
theorem d9_0 : decode jdk_38_method_25_code 0 = .ok (.aload_n 0, 1) := by decide +kernel
theorem d9_1 : decode jdk_38_method_25_code 1 = .ok (.dup, 1) := by decide +kernel
theorem d9_2 : decode jdk_38_method_25_code 2 = .ok (.getfield 63, 3) := by decide +kernel
theorem d9_5 : decode jdk_38_method_25_code 5 = .ok (.iconst 1, 1) := by decide +kernel
theorem d9_6 : decode jdk_38_method_25_code 6 = .ok (.iadd, 1) := by decide +kernel
theorem d9_7 : decode jdk_38_method_25_code 7 = .ok (.putfield 63, 3) := by decide +kernel
theorem d9_10 : decode jdk_38_method_25_code 10 = .ok (.aload_n 0, 1) := by decide +kernel
theorem d9_11 : decode jdk_38_method_25_code 11 = .ok (.aload_n 1, 1) := by decide +kernel
theorem d9_12 : decode jdk_38_method_25_code 12 = .ok (.aload_n 0, 1) := by decide +kernel
theorem d9_13 : decode jdk_38_method_25_code 13 = .ok (.getfield 9, 3) := by decide +kernel
theorem d9_16 : decode jdk_38_method_25_code 16 = .ok (.aload_n 0, 1) := by decide +kernel
theorem d9_17 : decode jdk_38_method_25_code 17 = .ok (.getfield 48, 3) := by decide +kernel
theorem d9_20 : decode jdk_38_method_25_code 20 = .ok (.invokevirtual 131, 3) := by decide +kernel
theorem d9_23 : decode jdk_38_method_25_code 23 = .ok (.iconst 1, 1) := by decide +kernel
theorem d9_24 : decode jdk_38_method_25_code 24 = .ok (.ireturn, 1) := by decide +kernel
theorem d10_0 : decode jdk_38_method_24_code 0 = .ok (.iload_n 3, 1) := by decide +kernel
theorem d10_1 : decode jdk_38_method_24_code 1 = .ok (.aload_n 2, 1) := by decide +kernel
theorem d10_2 : decode jdk_38_method_24_code 2 = .ok (.arraylength, 1) := by decide +kernel
theorem d10_3 : decode jdk_38_method_24_code 3 = .ok (.if_icmp .ne 8, 3) := by decide +kernel
theorem d10_6 : decode jdk_38_method_24_code 6 = .ok (.aload_n 0, 1) := by decide +kernel
theorem d10_7 : decode jdk_38_method_24_code 7 = .ok (.invokevirtual 129, 3) := by decide +kernel
theorem d10_10 : decode jdk_38_method_24_code 10 = .ok (.astore_n 2, 1) := by decide +kernel
theorem d10_11 : decode jdk_38_method_24_code 11 = .ok (.aload_n 2, 1) := by decide +kernel
theorem d10_12 : decode jdk_38_method_24_code 12 = .ok (.iload_n 3, 1) := by decide +kernel
theorem d10_13 : decode jdk_38_method_24_code 13 = .ok (.aload_n 1, 1) := by decide +kernel
theorem d10_14 : decode jdk_38_method_24_code 14 = .ok (.aastore, 1) := by decide +kernel
theorem d10_15 : decode jdk_38_method_24_code 15 = .ok (.aload_n 0, 1) := by decide +kernel
theorem d10_16 : decode jdk_38_method_24_code 16 = .ok (.iload_n 3, 1) := by decide +kernel
theorem d10_17 : decode jdk_38_method_24_code 17 = .ok (.iconst 1, 1) := by decide +kernel
theorem d10_18 : decode jdk_38_method_24_code 18 = .ok (.iadd, 1) := by decide +kernel
theorem d10_19 : decode jdk_38_method_24_code 19 = .ok (.putfield 48, 3) := by decide +kernel
theorem d10_22 : decode jdk_38_method_24_code 22 = .ok (.return_, 1) := by decide +kernel
theorem d11_0 : decode jdk_38_method_8_code 0 = .ok (.aload_n 0, 1) := by decide +kernel
theorem d11_1 : decode jdk_38_method_8_code 1 = .ok (.getfield 48, 3) := by decide +kernel
theorem d11_4 : decode jdk_38_method_8_code 4 = .ok (.ireturn, 1) := by decide +kernel
theorem d12_0 : decode method_4_code 0 = .ok (.iload_n 1, 1) := by decide +kernel
theorem d12_1 : decode method_4_code 1 = .ok (.aload_n 0, 1) := by decide +kernel
theorem d12_2 : decode method_4_code 2 = .ok (.invokeinterface 7 1, 5) := by decide +kernel
theorem d12_7 : decode method_4_code 7 = .ok (.if_icmp .lt 5, 3) := by decide +kernel
theorem d12_10 : decode method_4_code 10 = .ok (.iload_n 2, 1) := by decide +kernel
theorem d12_11 : decode method_4_code 11 = .ok (.ireturn, 1) := by decide +kernel
theorem d12_12 : decode method_4_code 12 = .ok (.aload_n 0, 1) := by decide +kernel
theorem d12_13 : decode method_4_code 13 = .ok (.iload_n 1, 1) := by decide +kernel
theorem d12_14 : decode method_4_code 14 = .ok (.invokeinterface 13 2, 5) := by decide +kernel
theorem d12_19 : decode method_4_code 19 = .ok (.checkcast 17, 3) := by decide +kernel
theorem d12_22 : decode method_4_code 22 = .ok (.invokevirtual 19, 3) := by decide +kernel
theorem d12_25 : decode method_4_code 25 = .ok (.istore 7, 2) := by decide +kernel
theorem d12_27 : decode method_4_code 27 = .ok (.iload 7, 2) := by decide +kernel
theorem d12_29 : decode method_4_code 29 = .ok (.ifCond .lt 9, 3) := by decide +kernel
theorem d12_32 : decode method_4_code 32 = .ok (.iload 7, 2) := by decide +kernel
theorem d12_34 : decode method_4_code 34 = .ok (.iconst 3, 1) := by decide +kernel
theorem d12_35 : decode method_4_code 35 = .ok (.if_icmp .le 6, 3) := by decide +kernel
theorem d12_41 : decode method_4_code 41 = .ok (.iload 7, 2) := by decide +kernel
theorem d12_43 : decode method_4_code 43 = .ok (.iload_n 3, 1) := by decide +kernel
theorem d12_44 : decode method_4_code 44 = .ok (.iload 4, 2) := by decide +kernel
theorem d12_46 : decode method_4_code 46 = .ok (.iload 5, 2) := by decide +kernel
theorem d12_48 : decode method_4_code 48 = .ok (.iload 6, 2) := by decide +kernel
theorem d12_50 : decode method_4_code 50 = .ok (.invokestatic 22, 3) := by decide +kernel
theorem d12_53 : decode method_4_code 53 = .ok (.istore 8, 2) := by decide +kernel
theorem d12_55 : decode method_4_code 55 = .ok (.iload 8, 2) := by decide +kernel
theorem d12_57 : decode method_4_code 57 = .ok (.ifCond .lt 9, 3) := by decide +kernel
theorem d12_60 : decode method_4_code 60 = .ok (.iload 8, 2) := by decide +kernel
theorem d12_62 : decode method_4_code 62 = .ok (.iload_n 2, 1) := by decide +kernel
theorem d12_63 : decode method_4_code 63 = .ok (.if_icmp .lt 6, 3) := by decide +kernel
theorem d12_66 : decode method_4_code 66 = .ok (.bipush (-9), 2) := by decide +kernel
theorem d12_68 : decode method_4_code 68 = .ok (.ireturn, 1) := by decide +kernel
theorem d12_69 : decode method_4_code 69 = .ok (.iload 8, 2) := by decide +kernel
theorem d12_71 : decode method_4_code 71 = .ok (.ireturn, 1) := by decide +kernel
theorem d13_0 : decode jdk_38_method_20_code 0 = .ok (.iload_n 1, 1) := by decide +kernel
theorem d13_1 : decode jdk_38_method_20_code 1 = .ok (.aload_n 0, 1) := by decide +kernel
theorem d13_2 : decode jdk_38_method_20_code 2 = .ok (.getfield 48, 3) := by decide +kernel
theorem d13_5 : decode jdk_38_method_20_code 5 = .ok (.invokestatic 118, 3) := by decide +kernel
theorem d13_8 : decode jdk_38_method_20_code 8 = .ok (.pop, 1) := by decide +kernel
theorem d13_9 : decode jdk_38_method_20_code 9 = .ok (.aload_n 0, 1) := by decide +kernel
theorem d13_10 : decode jdk_38_method_20_code 10 = .ok (.iload_n 1, 1) := by decide +kernel
theorem d13_11 : decode jdk_38_method_20_code 11 = .ok (.invokevirtual 123, 3) := by decide +kernel
theorem d13_14 : decode jdk_38_method_20_code 14 = .ok (.areturn, 1) := by decide +kernel
theorem d14_0 : decode jdk_31_method_17_code 0 = .ok (.iload_n 0, 1) := by decide +kernel
theorem d14_1 : decode jdk_31_method_17_code 1 = .ok (.iload_n 1, 1) := by decide +kernel
theorem d14_2 : decode jdk_31_method_17_code 2 = .ok (.aconst_null, 1) := by decide +kernel
theorem d14_3 : decode jdk_31_method_17_code 3 = .ok (.invokestatic 105, 3) := by decide +kernel
theorem d14_6 : decode jdk_31_method_17_code 6 = .ok (.ireturn, 1) := by decide +kernel
theorem d15_0 : decode jdk_41_method_11_code 0 = .ok (.iload_n 0, 1) := by decide +kernel
theorem d15_1 : decode jdk_41_method_11_code 1 = .ok (.ifCond .lt 8, 3) := by decide +kernel
theorem d15_4 : decode jdk_41_method_11_code 4 = .ok (.iload_n 0, 1) := by decide +kernel
theorem d15_5 : decode jdk_41_method_11_code 5 = .ok (.iload_n 1, 1) := by decide +kernel
theorem d15_6 : decode jdk_41_method_11_code 6 = .ok (.if_icmp .lt 10, 3) := by decide +kernel
theorem d15_16 : decode jdk_41_method_11_code 16 = .ok (.iload_n 0, 1) := by decide +kernel
theorem d15_17 : decode jdk_41_method_11_code 17 = .ok (.ireturn, 1) := by decide +kernel
theorem d16_0 : decode jdk_38_method_18_code 0 = .ok (.aload_n 0, 1) := by decide +kernel
theorem d16_1 : decode jdk_38_method_18_code 1 = .ok (.getfield 9, 3) := by decide +kernel
theorem d16_4 : decode jdk_38_method_18_code 4 = .ok (.iload_n 1, 1) := by decide +kernel
theorem d16_5 : decode jdk_38_method_18_code 5 = .ok (.aaload, 1) := by decide +kernel
theorem d16_6 : decode jdk_38_method_18_code 6 = .ok (.areturn, 1) := by decide +kernel
theorem d17_0 : decode jdk_33_method_27_code 0 = .ok (.aload_n 0, 1) := by decide +kernel
theorem d17_1 : decode jdk_33_method_27_code 1 = .ok (.getfield 205, 3) := by decide +kernel
theorem d17_4 : decode jdk_33_method_27_code 4 = .ok (.ireturn, 1) := by decide +kernel
theorem d18_0 : decode method_2_code 0 = .ok (.iload 4, 2) := by decide +kernel
theorem d18_2 : decode method_2_code 2 = .ok (.iload_n 0, 1) := by decide +kernel
theorem d18_3 : decode method_2_code 3 = .ok (.if_icmp .ne 5, 3) := by decide +kernel
theorem d18_6 : decode method_2_code 6 = .ok (.iconst 3, 1) := by decide +kernel
theorem d18_7 : decode method_2_code 7 = .ok (.ireturn, 1) := by decide +kernel
theorem d18_8 : decode method_2_code 8 = .ok (.iload_n 3, 1) := by decide +kernel
theorem d18_9 : decode method_2_code 9 = .ok (.iload_n 0, 1) := by decide +kernel
theorem d18_10 : decode method_2_code 10 = .ok (.if_icmp .ne 5, 3) := by decide +kernel
theorem d18_13 : decode method_2_code 13 = .ok (.iconst 2, 1) := by decide +kernel
theorem d18_14 : decode method_2_code 14 = .ok (.ireturn, 1) := by decide +kernel
theorem d18_15 : decode method_2_code 15 = .ok (.iload_n 2, 1) := by decide +kernel
theorem d18_16 : decode method_2_code 16 = .ok (.iload_n 0, 1) := by decide +kernel
theorem d18_17 : decode method_2_code 17 = .ok (.if_icmp .ne 5, 3) := by decide +kernel
theorem d18_20 : decode method_2_code 20 = .ok (.iconst 1, 1) := by decide +kernel
theorem d18_21 : decode method_2_code 21 = .ok (.ireturn, 1) := by decide +kernel
theorem d18_22 : decode method_2_code 22 = .ok (.iload_n 1, 1) := by decide +kernel
theorem d18_23 : decode method_2_code 23 = .ok (.iload_n 0, 1) := by decide +kernel
theorem d18_24 : decode method_2_code 24 = .ok (.if_icmp .ne 5, 3) := by decide +kernel
theorem d18_27 : decode method_2_code 27 = .ok (.iconst 0, 1) := by decide +kernel
theorem d18_28 : decode method_2_code 28 = .ok (.ireturn, 1) := by decide +kernel
theorem d18_29 : decode method_2_code 29 = .ok (.iconst (-1), 1) := by decide +kernel
theorem d18_30 : decode method_2_code 30 = .ok (.ireturn, 1) := by decide +kernel
theorem d19_0 : decode prog_102_method_4_code 0 = .ok (.aload_n 0, 1) := by decide +kernel
theorem d19_1 : decode prog_102_method_4_code 1 = .ok (.getfield 20, 3) := by decide +kernel
theorem d19_4 : decode prog_102_method_4_code 4 = .ok (.iload_n 1, 1) := by decide +kernel
theorem d19_5 : decode prog_102_method_4_code 5 = .ok (.iaload, 1) := by decide +kernel
theorem d19_6 : decode prog_102_method_4_code 6 = .ok (.ireturn, 1) := by decide +kernel
theorem d20_0 : decode jdk_38_method_7_code 0 = .ok (.aload_n 0, 1) := by decide +kernel
theorem d20_1 : decode jdk_38_method_7_code 1 = .ok (.aload_n 0, 1) := by decide +kernel
theorem d20_2 : decode jdk_38_method_7_code 2 = .ok (.getfield 48, 3) := by decide +kernel
theorem d20_5 : decode jdk_38_method_7_code 5 = .ok (.iconst 1, 1) := by decide +kernel
theorem d20_6 : decode jdk_38_method_7_code 6 = .ok (.iadd, 1) := by decide +kernel
theorem d20_7 : decode jdk_38_method_7_code 7 = .ok (.invokevirtual 69, 3) := by decide +kernel
theorem d20_10 : decode jdk_38_method_7_code 10 = .ok (.areturn, 1) := by decide +kernel
theorem d21_0 : decode jdk_38_method_6_code 0 = .ok (.aload_n 0, 1) := by decide +kernel
theorem d21_1 : decode jdk_38_method_6_code 1 = .ok (.getfield 9, 3) := by decide +kernel
theorem d21_4 : decode jdk_38_method_6_code 4 = .ok (.arraylength, 1) := by decide +kernel
theorem d21_5 : decode jdk_38_method_6_code 5 = .ok (.istore_n 2, 1) := by decide +kernel
theorem d21_6 : decode jdk_38_method_6_code 6 = .ok (.iload_n 2, 1) := by decide +kernel
theorem d21_7 : decode jdk_38_method_6_code 7 = .ok (.ifCond .gt 13, 3) := by decide +kernel
theorem d21_20 : decode jdk_38_method_6_code 20 = .ok (.iload_n 2, 1) := by decide +kernel
theorem d21_21 : decode jdk_38_method_6_code 21 = .ok (.iload_n 1, 1) := by decide +kernel
theorem d21_22 : decode jdk_38_method_6_code 22 = .ok (.iload_n 2, 1) := by decide +kernel
theorem d21_23 : decode jdk_38_method_6_code 23 = .ok (.isub, 1) := by decide +kernel
theorem d21_24 : decode jdk_38_method_6_code 24 = .ok (.iload_n 2, 1) := by decide +kernel
theorem d21_25 : decode jdk_38_method_6_code 25 = .ok (.iconst 1, 1) := by decide +kernel
theorem d21_26 : decode jdk_38_method_6_code 26 = .ok (.ishr, 1) := by decide +kernel
theorem d21_27 : decode jdk_38_method_6_code 27 = .ok (.invokestatic 73, 3) := by decide +kernel
theorem d21_30 : decode jdk_38_method_6_code 30 = .ok (.istore_n 3, 1) := by decide +kernel
theorem d21_31 : decode jdk_38_method_6_code 31 = .ok (.aload_n 0, 1) := by decide +kernel
theorem d21_32 : decode jdk_38_method_6_code 32 = .ok (.aload_n 0, 1) := by decide +kernel
theorem d21_33 : decode jdk_38_method_6_code 33 = .ok (.getfield 9, 3) := by decide +kernel
theorem d21_36 : decode jdk_38_method_6_code 36 = .ok (.iload_n 3, 1) := by decide +kernel
theorem d21_37 : decode jdk_38_method_6_code 37 = .ok (.invokestatic 66, 3) := by decide +kernel
theorem d21_40 : decode jdk_38_method_6_code 40 = .ok (.dup_x1, 1) := by decide +kernel
theorem d21_41 : decode jdk_38_method_6_code 41 = .ok (.putfield 9, 3) := by decide +kernel
theorem d21_44 : decode jdk_38_method_6_code 44 = .ok (.areturn, 1) := by decide +kernel
theorem d22_0 : decode jdk_48_method_27_code 0 = .ok (.iload_n 0, 1) := by decide +kernel
theorem d22_1 : decode jdk_48_method_27_code 1 = .ok (.iload_n 1, 1) := by decide +kernel
theorem d22_2 : decode jdk_48_method_27_code 2 = .ok (.iload_n 2, 1) := by decide +kernel
theorem d22_3 : decode jdk_48_method_27_code 3 = .ok (.invokestatic 194, 3) := by decide +kernel
theorem d22_6 : decode jdk_48_method_27_code 6 = .ok (.iadd, 1) := by decide +kernel
theorem d22_7 : decode jdk_48_method_27_code 7 = .ok (.istore_n 3, 1) := by decide +kernel
theorem d22_8 : decode jdk_48_method_27_code 8 = .ok (.iconst 0, 1) := by decide +kernel
theorem d22_9 : decode jdk_48_method_27_code 9 = .ok (.iload_n 3, 1) := by decide +kernel
theorem d22_10 : decode jdk_48_method_27_code 10 = .ok (.if_icmp .ge 11, 3) := by decide +kernel
theorem d22_13 : decode jdk_48_method_27_code 13 = .ok (.iload_n 3, 1) := by decide +kernel
theorem d22_14 : decode jdk_48_method_27_code 14 = .ok (.ldc 200, 2) := by decide +kernel
theorem d22_16 : decode jdk_48_method_27_code 16 = .ok (.if_icmp .gt 5, 3) := by decide +kernel
theorem d22_19 : decode jdk_48_method_27_code 19 = .ok (.iload_n 3, 1) := by decide +kernel
theorem d22_20 : decode jdk_48_method_27_code 20 = .ok (.ireturn, 1) := by decide +kernel
theorem d23_0 : decode jdk_29_method_65_code 0 = .ok (.iload_n 0, 1) := by decide +kernel
theorem d23_1 : decode jdk_29_method_65_code 1 = .ok (.iload_n 1, 1) := by decide +kernel
theorem d23_2 : decode jdk_29_method_65_code 2 = .ok (.if_icmp .lt 7, 3) := by decide +kernel
theorem d23_5 : decode jdk_29_method_65_code 5 = .ok (.iload_n 0, 1) := by decide +kernel
theorem d23_6 : decode jdk_29_method_65_code 6 = .ok (.goto 4, 3) := by decide +kernel
theorem d23_9 : decode jdk_29_method_65_code 9 = .ok (.iload_n 1, 1) := by decide +kernel
theorem d23_10 : decode jdk_29_method_65_code 10 = .ok (.ireturn, 1) := by decide +kernel
theorem d24_0 : decode jdk_65_method_119_code 0 = .ok (.aload_n 0, 1) := by decide +kernel
theorem d24_1 : decode jdk_65_method_119_code 1 = .ok (.iload_n 1, 1) := by decide +kernel
theorem d24_2 : decode jdk_65_method_119_code 2 = .ok (.aload_n 0, 1) := by decide +kernel
theorem d24_3 : decode jdk_65_method_119_code 3 = .ok (.invokevirtual 86, 3) := by decide +kernel
theorem d24_6 : decode jdk_65_method_119_code 6 = .ok (.invokestatic 300, 3) := by decide +kernel
theorem d24_9 : decode jdk_65_method_119_code 9 = .ok (.areturn, 1) := by decide +kernel
theorem d25_0 : decode jdk_65_method_120_code 0 = .ok (.aload_n 2, 1) := by decide +kernel
theorem d25_1 : decode jdk_65_method_120_code 1 = .ok (.ldc 110, 2) := by decide +kernel
theorem d25_3 : decode jdk_65_method_120_code 3 = .ok (.if_acmp .ne 10, 3) := by decide +kernel
theorem d25_6 : decode jdk_65_method_120_code 6 = .ok (.iload_n 1, 1) := by decide +kernel
theorem d25_7 : decode jdk_65_method_120_code 7 = .ok (.anewarray 2, 3) := by decide +kernel
theorem d25_10 : decode jdk_65_method_120_code 10 = .ok (.goto 14, 3) := by decide +kernel
theorem d25_24 : decode jdk_65_method_120_code 24 = .ok (.astore_n 3, 1) := by decide +kernel
theorem d25_25 : decode jdk_65_method_120_code 25 = .ok (.aload_n 0, 1) := by decide +kernel
theorem d25_26 : decode jdk_65_method_120_code 26 = .ok (.iconst 0, 1) := by decide +kernel
theorem d25_27 : decode jdk_65_method_120_code 27 = .ok (.aload_n 3, 1) := by decide +kernel
theorem d25_28 : decode jdk_65_method_120_code 28 = .ok (.iconst 0, 1) := by decide +kernel
theorem d25_29 : decode jdk_65_method_120_code 29 = .ok (.aload_n 0, 1) := by decide +kernel
theorem d25_30 : decode jdk_65_method_120_code 30 = .ok (.arraylength, 1) := by decide +kernel
theorem d25_31 : decode jdk_65_method_120_code 31 = .ok (.iload_n 1, 1) := by decide +kernel
theorem d25_32 : decode jdk_65_method_120_code 32 = .ok (.invokestatic 304, 3) := by decide +kernel
theorem d25_35 : decode jdk_65_method_120_code 35 = .ok (.invokestatic 150, 3) := by decide +kernel
theorem d25_38 : decode jdk_65_method_120_code 38 = .ok (.aload_n 3, 1) := by decide +kernel
theorem d25_39 : decode jdk_65_method_120_code 39 = .ok (.areturn, 1) := by decide +kernel
theorem d26_0 : decode jdk_29_method_69_code 0 = .ok (.iload_n 0, 1) := by decide +kernel
theorem d26_1 : decode jdk_29_method_69_code 1 = .ok (.iload_n 1, 1) := by decide +kernel
theorem d26_2 : decode jdk_29_method_69_code 2 = .ok (.if_icmp .gt 7, 3) := by decide +kernel
theorem d26_5 : decode jdk_29_method_69_code 5 = .ok (.iload_n 0, 1) := by decide +kernel
theorem d26_6 : decode jdk_29_method_69_code 6 = .ok (.goto 4, 3) := by decide +kernel
theorem d26_9 : decode jdk_29_method_69_code 9 = .ok (.iload_n 1, 1) := by decide +kernel
theorem d26_10 : decode jdk_29_method_69_code 10 = .ok (.ireturn, 1) := by decide +kernel
theorem wd0 {a0 : Array Value} {Z : State} (hw : ∀ d ∈ tables_1, d.before a0 Z = true) : ((Jvm.Cond.constant "com/example/dissect/dissect/RecentPlacesPutPinLaw" (28 : Nat) (268435455 : Int32)) : Jvm.Cond).before a0 Z = true := hw _ (List.mem_of_getElem? (i := 0) rfl)
theorem wd1 {a0 : Array Value} {Z : State} (hw : ∀ d ∈ tables_1, d.before a0 Z = true) : ((Jvm.Cond.classLink "com/example/dissect/dissect/RecentPlacesPutPinLaw" (29 : Nat) "com/example/dissect/dissect/RecentPlaces") : Jvm.Cond).before a0 Z = true := hw _ (List.mem_of_getElem? (i := 1) rfl)
theorem wd2 {a0 : Array Value} {Z : State} (hw : ∀ d ∈ tables_1, d.before a0 Z = true) : ((Jvm.Cond.instantiable "com/example/dissect/dissect/RecentPlaces" (4 : Nat)) : Jvm.Cond).before a0 Z = true := hw _ (List.mem_of_getElem? (i := 2) rfl)
theorem wd3 {a0 : Array Value} {Z : State} (hw : ∀ d ∈ tables_1, d.before a0 Z = true) : ((Jvm.Cond.initialized "com/example/dissect/dissect/RecentPlaces") : Jvm.Cond).before a0 Z = true := hw _ (List.mem_of_getElem? (i := 3) rfl)
theorem wd4 {a0 : Array Value} {Z : State} (hw : ∀ d ∈ tables_1, d.before a0 Z = true) : ((Jvm.Cond.methodLink "com/example/dissect/dissect/RecentPlacesPutPinLaw" (31 : Nat) ({ cls := "com/example/dissect/dissect/RecentPlaces", name := "<init>", desc := "(I)V" } : Jvm.MethodName)) : Jvm.Cond).before a0 Z = true := hw _ (List.mem_of_getElem? (i := 4) rfl)
theorem wd5 {a0 : Array Value} {Z : State} (hw : ∀ d ∈ tables_1, d.before a0 Z = true) : ((Jvm.Cond.instanceMethod ({ cls := "com/example/dissect/dissect/RecentPlaces", name := "<init>", desc := "(I)V" } : Jvm.MethodName)) : Jvm.Cond).before a0 Z = true := hw _ (List.mem_of_getElem? (i := 5) rfl)
theorem wd6 {a0 : Array Value} {Z : State} (hw : ∀ d ∈ tables_1, d.before a0 Z = true) : ((Jvm.Cond.code ({ cls := "com/example/dissect/dissect/RecentPlaces", name := "<init>", desc := "(I)V" } : Jvm.MethodName) prog_102_method_1_code (2 : Nat) (Option.none : Option Jvm.ClassFile.FieldType)) : Jvm.Cond).before a0 Z = true := hw _ (List.mem_of_getElem? (i := 6) rfl)
theorem wd7 {a0 : Array Value} {Z : State} (hw : ∀ d ∈ tables_1, d.before a0 Z = true) : ((Jvm.Cond.methodLink "com/example/dissect/dissect/RecentPlaces" (1 : Nat) ({ cls := "java/lang/Object", name := "<init>", desc := "()V" } : Jvm.MethodName)) : Jvm.Cond).before a0 Z = true := hw _ (List.mem_of_getElem? (i := 7) rfl)
theorem wd8 {a0 : Array Value} {Z : State} (hw : ∀ d ∈ tables_1, d.before a0 Z = true) : ((Jvm.Cond.instanceMethod ({ cls := "java/lang/Object", name := "<init>", desc := "()V" } : Jvm.MethodName)) : Jvm.Cond).before a0 Z = true := hw _ (List.mem_of_getElem? (i := 8) rfl)
theorem wd9 {a0 : Array Value} {Z : State} (hw : ∀ d ∈ tables_1, d.before a0 Z = true) : ((Jvm.Cond.code ({ cls := "java/lang/Object", name := "<init>", desc := "()V" } : Jvm.MethodName) object_method_1_code (1 : Nat) (Option.none : Option Jvm.ClassFile.FieldType)) : Jvm.Cond).before a0 Z = true := hw _ (List.mem_of_getElem? (i := 9) rfl)
theorem wd10 {a0 : Array Value} {Z : State} (hw : ∀ d ∈ tables_1, d.before a0 Z = true) : ((Jvm.Cond.fieldLink "com/example/dissect/dissect/RecentPlaces" (7 : Nat) "com/example/dissect/dissect/RecentPlaces" "newest" "I") : Jvm.Cond).before a0 Z = true := hw _ (List.mem_of_getElem? (i := 10) rfl)
theorem wd11 {a0 : Array Value} {Z : State} (hw : ∀ d ∈ tables_1, d.before a0 Z = true) : ((Jvm.Cond.lays "com/example/dissect/dissect/RecentPlaces" "com/example/dissect/dissect/RecentPlaces" "newest" "I") : Jvm.Cond).before a0 Z = true := hw _ (List.mem_of_getElem? (i := 11) rfl)
theorem wd12 {a0 : Array Value} {Z : State} (hw : ∀ d ∈ tables_1, d.before a0 Z = true) : ((Jvm.Cond.arrayClass Jvm.ClassFile.FieldType.int) : Jvm.Cond).before a0 Z = true := hw _ (List.mem_of_getElem? (i := 12) rfl)
theorem wd13 {a0 : Array Value} {Z : State} (hw : ∀ d ∈ tables_1, d.before a0 Z = true) : ((Jvm.Cond.fieldLink "com/example/dissect/dissect/RecentPlaces" (13 : Nat) "com/example/dissect/dissect/RecentPlaces" "older" "[I") : Jvm.Cond).before a0 Z = true := hw _ (List.mem_of_getElem? (i := 13) rfl)
theorem wd14 {a0 : Array Value} {Z : State} (hw : ∀ d ∈ tables_1, d.before a0 Z = true) : ((Jvm.Cond.laysFinal "com/example/dissect/dissect/RecentPlaces" "com/example/dissect/dissect/RecentPlaces" "older" "[I") : Jvm.Cond).before a0 Z = true := hw _ (List.mem_of_getElem? (i := 14) rfl)
theorem wd15 {a0 : Array Value} {Z : State} (hw : ∀ d ∈ tables_1, d.before a0 Z = true) : ((Jvm.Cond.fieldLink "com/example/dissect/dissect/RecentPlaces" (17 : Nat) "com/example/dissect/dissect/RecentPlaces" "newer" "[I") : Jvm.Cond).before a0 Z = true := hw _ (List.mem_of_getElem? (i := 15) rfl)
theorem wd16 {a0 : Array Value} {Z : State} (hw : ∀ d ∈ tables_1, d.before a0 Z = true) : ((Jvm.Cond.laysFinal "com/example/dissect/dissect/RecentPlaces" "com/example/dissect/dissect/RecentPlaces" "newer" "[I") : Jvm.Cond).before a0 Z = true := hw _ (List.mem_of_getElem? (i := 16) rfl)
theorem wd17 {a0 : Array Value} {Z : State} (hw : ∀ d ∈ tables_1, d.before a0 Z = true) : ((Jvm.Cond.fieldLink "com/example/dissect/dissect/RecentPlaces" (20 : Nat) "com/example/dissect/dissect/RecentPlaces" "putAt" "[I") : Jvm.Cond).before a0 Z = true := hw _ (List.mem_of_getElem? (i := 17) rfl)
theorem wd18 {a0 : Array Value} {Z : State} (hw : ∀ d ∈ tables_1, d.before a0 Z = true) : ((Jvm.Cond.laysFinal "com/example/dissect/dissect/RecentPlaces" "com/example/dissect/dissect/RecentPlaces" "putAt" "[I") : Jvm.Cond).before a0 Z = true := hw _ (List.mem_of_getElem? (i := 18) rfl)
theorem wd19 {a0 : Array Value} {Z : State} (hw : ∀ d ∈ tables_1, d.before a0 Z = true) : ((Jvm.Cond.methodLink "com/example/dissect/dissect/RecentPlacesPutPinLaw" (34 : Nat) ({ cls := "com/example/dissect/dissect/RecentPlaces", name := "put", desc := "(II)V" } : Jvm.MethodName)) : Jvm.Cond).before a0 Z = true := hw _ (List.mem_of_getElem? (i := 19) rfl)
theorem wd20 {a0 : Array Value} {Z : State} (hw : ∀ d ∈ tables_1, d.before a0 Z = true) : ((Jvm.Cond.declares ({ cls := "com/example/dissect/dissect/RecentPlaces", name := "put", desc := "(II)V" } : Jvm.MethodName)) : Jvm.Cond).before a0 Z = true := hw _ (List.mem_of_getElem? (i := 20) rfl)
theorem wd21 {a0 : Array Value} {Z : State} (hw : ∀ d ∈ tables_1, d.before a0 Z = true) : ((Jvm.Cond.instanceMethod ({ cls := "com/example/dissect/dissect/RecentPlaces", name := "put", desc := "(II)V" } : Jvm.MethodName)) : Jvm.Cond).before a0 Z = true := hw _ (List.mem_of_getElem? (i := 21) rfl)
theorem wd22 {a0 : Array Value} {Z : State} (hw : ∀ d ∈ tables_1, d.before a0 Z = true) : ((Jvm.Cond.selects "com/example/dissect/dissect/RecentPlaces" ({ cls := "com/example/dissect/dissect/RecentPlaces", name := "put", desc := "(II)V" } : Jvm.MethodName) ({ cls := "com/example/dissect/dissect/RecentPlaces", name := "put", desc := "(II)V" } : Jvm.MethodName)) : Jvm.Cond).before a0 Z = true := hw _ (List.mem_of_getElem? (i := 22) rfl)
theorem wd23 {a0 : Array Value} {Z : State} (hw : ∀ d ∈ tables_1, d.before a0 Z = true) : ((Jvm.Cond.code ({ cls := "com/example/dissect/dissect/RecentPlaces", name := "put", desc := "(II)V" } : Jvm.MethodName) prog_102_method_2_code (3 : Nat) (Option.none : Option Jvm.ClassFile.FieldType)) : Jvm.Cond).before a0 Z = true := hw _ (List.mem_of_getElem? (i := 23) rfl)
theorem wd24 {a0 : Array Value} {Z : State} (hw : ∀ d ∈ tables_1, d.before a0 Z = true) : ((Jvm.Cond.methodLink "com/example/dissect/dissect/RecentPlacesPutPinLaw" (38 : Nat) ({ cls := "com/example/dissect/dissect/RecentPlacesPutPinLaw", name := "expMoment", desc := "(IIIIIIIII)I" } : Jvm.MethodName)) : Jvm.Cond).before a0 Z = true := hw _ (List.mem_of_getElem? (i := 24) rfl)
theorem wd25 {a0 : Array Value} {Z : State} (hw : ∀ d ∈ tables_1, d.before a0 Z = true) : ((Jvm.Cond.static ({ cls := "com/example/dissect/dissect/RecentPlacesPutPinLaw", name := "expMoment", desc := "(IIIIIIIII)I" } : Jvm.MethodName)) : Jvm.Cond).before a0 Z = true := hw _ (List.mem_of_getElem? (i := 25) rfl)
theorem wd26 {a0 : Array Value} {Z : State} (hw : ∀ d ∈ tables_1, d.before a0 Z = true) : ((Jvm.Cond.initialized "com/example/dissect/dissect/RecentPlacesPutPinLaw") : Jvm.Cond).before a0 Z = true := hw _ (List.mem_of_getElem? (i := 26) rfl)
theorem wd27 {a0 : Array Value} {Z : State} (hw : ∀ d ∈ tables_1, d.before a0 Z = true) : ((Jvm.Cond.code ({ cls := "com/example/dissect/dissect/RecentPlacesPutPinLaw", name := "expMoment", desc := "(IIIIIIIII)I" } : Jvm.MethodName) method_3_code (9 : Nat) (Option.some Jvm.ClassFile.FieldType.int)) : Jvm.Cond).before a0 Z = true := hw _ (List.mem_of_getElem? (i := 27) rfl)
theorem wd28 {a0 : Array Value} {Z : State} (hw : ∀ d ∈ tables_1, d.before a0 Z = true) : ((Jvm.Cond.methodLink "com/example/dissect/dissect/RecentPlacesPutPinLaw" (42 : Nat) ({ cls := "com/example/dissect/dissect/RecentPlaces", name := "since", desc := "(I)Ljava/util/List;" } : Jvm.MethodName)) : Jvm.Cond).before a0 Z = true := hw _ (List.mem_of_getElem? (i := 28) rfl)
theorem wd29 {a0 : Array Value} {Z : State} (hw : ∀ d ∈ tables_1, d.before a0 Z = true) : ((Jvm.Cond.declares ({ cls := "com/example/dissect/dissect/RecentPlaces", name := "since", desc := "(I)Ljava/util/List;" } : Jvm.MethodName)) : Jvm.Cond).before a0 Z = true := hw _ (List.mem_of_getElem? (i := 29) rfl)
theorem wd30 {a0 : Array Value} {Z : State} (hw : ∀ d ∈ tables_1, d.before a0 Z = true) : ((Jvm.Cond.instanceMethod ({ cls := "com/example/dissect/dissect/RecentPlaces", name := "since", desc := "(I)Ljava/util/List;" } : Jvm.MethodName)) : Jvm.Cond).before a0 Z = true := hw _ (List.mem_of_getElem? (i := 30) rfl)
theorem wd31 {a0 : Array Value} {Z : State} (hw : ∀ d ∈ tables_1, d.before a0 Z = true) : ((Jvm.Cond.selects "com/example/dissect/dissect/RecentPlaces" ({ cls := "com/example/dissect/dissect/RecentPlaces", name := "since", desc := "(I)Ljava/util/List;" } : Jvm.MethodName) ({ cls := "com/example/dissect/dissect/RecentPlaces", name := "since", desc := "(I)Ljava/util/List;" } : Jvm.MethodName)) : Jvm.Cond).before a0 Z = true := hw _ (List.mem_of_getElem? (i := 31) rfl)
theorem wd32 {a0 : Array Value} {Z : State} (hw : ∀ d ∈ tables_1, d.before a0 Z = true) : ((Jvm.Cond.code ({ cls := "com/example/dissect/dissect/RecentPlaces", name := "since", desc := "(I)Ljava/util/List;" } : Jvm.MethodName) prog_102_method_5_code (4 : Nat) (Option.some (Jvm.ClassFile.FieldType.object "java/util/List"))) : Jvm.Cond).before a0 Z = true := hw _ (List.mem_of_getElem? (i := 32) rfl)
theorem wd33 {a0 : Array Value} {Z : State} (hw : ∀ d ∈ tables_1, d.before a0 Z = true) : ((Jvm.Cond.classLink "com/example/dissect/dissect/RecentPlaces" (23 : Nat) "java/util/ArrayList") : Jvm.Cond).before a0 Z = true := hw _ (List.mem_of_getElem? (i := 33) rfl)
theorem wd34 {a0 : Array Value} {Z : State} (hw : ∀ d ∈ tables_1, d.before a0 Z = true) : ((Jvm.Cond.instantiable "java/util/ArrayList" (3 : Nat)) : Jvm.Cond).before a0 Z = true := hw _ (List.mem_of_getElem? (i := 34) rfl)
theorem wd35 {a0 : Array Value} {Z : State} (hw : ∀ d ∈ tables_1, d.before a0 Z = true) : ((Jvm.Cond.initialized "java/util/ArrayList") : Jvm.Cond).before a0 Z = true := hw _ (List.mem_of_getElem? (i := 35) rfl)
theorem wd36 {a0 : Array Value} {Z : State} (hw : ∀ d ∈ tables_1, d.before a0 Z = true) : ((Jvm.Cond.methodLink "com/example/dissect/dissect/RecentPlaces" (25 : Nat) ({ cls := "java/util/ArrayList", name := "<init>", desc := "(I)V" } : Jvm.MethodName)) : Jvm.Cond).before a0 Z = true := hw _ (List.mem_of_getElem? (i := 36) rfl)
theorem wd37 {a0 : Array Value} {Z : State} (hw : ∀ d ∈ tables_1, d.before a0 Z = true) : ((Jvm.Cond.instanceMethod ({ cls := "java/util/ArrayList", name := "<init>", desc := "(I)V" } : Jvm.MethodName)) : Jvm.Cond).before a0 Z = true := hw _ (List.mem_of_getElem? (i := 37) rfl)
theorem wd38 {a0 : Array Value} {Z : State} (hw : ∀ d ∈ tables_1, d.before a0 Z = true) : ((Jvm.Cond.code ({ cls := "java/util/ArrayList", name := "<init>", desc := "(I)V" } : Jvm.MethodName) jdk_38_method_1_code (2 : Nat) (Option.none : Option Jvm.ClassFile.FieldType)) : Jvm.Cond).before a0 Z = true := hw _ (List.mem_of_getElem? (i := 38) rfl)
theorem wd39 {a0 : Array Value} {Z : State} (hw : ∀ d ∈ tables_1, d.before a0 Z = true) : ((Jvm.Cond.methodLink "java/util/ArrayList" (1 : Nat) ({ cls := "java/util/AbstractList", name := "<init>", desc := "()V" } : Jvm.MethodName)) : Jvm.Cond).before a0 Z = true := hw _ (List.mem_of_getElem? (i := 39) rfl)
theorem wd40 {a0 : Array Value} {Z : State} (hw : ∀ d ∈ tables_1, d.before a0 Z = true) : ((Jvm.Cond.instanceMethod ({ cls := "java/util/AbstractList", name := "<init>", desc := "()V" } : Jvm.MethodName)) : Jvm.Cond).before a0 Z = true := hw _ (List.mem_of_getElem? (i := 40) rfl)
theorem wd43 {a0 : Array Value} {Z : State} (hw : ∀ d ∈ tables_1, d.before a0 Z = true) : ((Jvm.Cond.initialized "java/util/AbstractList") : Jvm.Cond).before a0 Z = true := hw _ (List.mem_of_getElem? (i := 43) rfl)
theorem wd44 {a0 : Array Value} {Z : State} (hw : ∀ d ∈ tables_1, d.before a0 Z = true) : ((Jvm.Cond.code ({ cls := "java/util/AbstractList", name := "<init>", desc := "()V" } : Jvm.MethodName) jdk_39_method_1_code (1 : Nat) (Option.none : Option Jvm.ClassFile.FieldType)) : Jvm.Cond).before a0 Z = true := hw _ (List.mem_of_getElem? (i := 44) rfl)
theorem wd45 {a0 : Array Value} {Z : State} (hw : ∀ d ∈ tables_1, d.before a0 Z = true) : ((Jvm.Cond.methodLink "java/util/AbstractList" (1 : Nat) ({ cls := "java/util/AbstractCollection", name := "<init>", desc := "()V" } : Jvm.MethodName)) : Jvm.Cond).before a0 Z = true := hw _ (List.mem_of_getElem? (i := 45) rfl)
theorem wd46 {a0 : Array Value} {Z : State} (hw : ∀ d ∈ tables_1, d.before a0 Z = true) : ((Jvm.Cond.instanceMethod ({ cls := "java/util/AbstractCollection", name := "<init>", desc := "()V" } : Jvm.MethodName)) : Jvm.Cond).before a0 Z = true := hw _ (List.mem_of_getElem? (i := 46) rfl)
theorem wd49 {a0 : Array Value} {Z : State} (hw : ∀ d ∈ tables_1, d.before a0 Z = true) : ((Jvm.Cond.initialized "java/util/AbstractCollection") : Jvm.Cond).before a0 Z = true := hw _ (List.mem_of_getElem? (i := 49) rfl)
theorem wd50 {a0 : Array Value} {Z : State} (hw : ∀ d ∈ tables_1, d.before a0 Z = true) : ((Jvm.Cond.code ({ cls := "java/util/AbstractCollection", name := "<init>", desc := "()V" } : Jvm.MethodName) jdk_22_method_1_code (1 : Nat) (Option.none : Option Jvm.ClassFile.FieldType)) : Jvm.Cond).before a0 Z = true := hw _ (List.mem_of_getElem? (i := 50) rfl)
theorem wd51 {a0 : Array Value} {Z : State} (hw : ∀ d ∈ tables_1, d.before a0 Z = true) : ((Jvm.Cond.methodLink "java/util/AbstractCollection" (1 : Nat) ({ cls := "java/lang/Object", name := "<init>", desc := "()V" } : Jvm.MethodName)) : Jvm.Cond).before a0 Z = true := hw _ (List.mem_of_getElem? (i := 51) rfl)
theorem wd52 {a0 : Array Value} {Z : State} (hw : ∀ d ∈ tables_1, d.before a0 Z = true) : ((Jvm.Cond.fieldLink "java/util/AbstractList" (7 : Nat) "java/util/AbstractList" "modCount" "I") : Jvm.Cond).before a0 Z = true := hw _ (List.mem_of_getElem? (i := 52) rfl)
theorem wd53 {a0 : Array Value} {Z : State} (hw : ∀ d ∈ tables_1, d.before a0 Z = true) : ((Jvm.Cond.lays "java/util/ArrayList" "java/util/AbstractList" "modCount" "I") : Jvm.Cond).before a0 Z = true := hw _ (List.mem_of_getElem? (i := 53) rfl)
theorem wd54 {a0 : Array Value} {Z : State} (hw : ∀ d ∈ tables_1, d.before a0 Z = true) : ((Jvm.Cond.classLink "java/util/ArrayList" (7 : Nat) "java/lang/Object") : Jvm.Cond).before a0 Z = true := hw _ (List.mem_of_getElem? (i := 54) rfl)
theorem wd55 {a0 : Array Value} {Z : State} (hw : ∀ d ∈ tables_1, d.before a0 Z = true) : ((Jvm.Cond.arrayOver (Jvm.ClassFile.FieldType.object "java/lang/Object")) : Jvm.Cond).before a0 Z = true := hw _ (List.mem_of_getElem? (i := 55) rfl)
theorem wd56 {a0 : Array Value} {Z : State} (hw : ∀ d ∈ tables_1, d.before a0 Z = true) : ((Jvm.Cond.fieldLink "java/util/ArrayList" (9 : Nat) "java/util/ArrayList" "elementData" "[Ljava/lang/Object;") : Jvm.Cond).before a0 Z = true := hw _ (List.mem_of_getElem? (i := 56) rfl)
theorem wd57 {a0 : Array Value} {Z : State} (hw : ∀ d ∈ tables_1, d.before a0 Z = true) : ((Jvm.Cond.lays "java/util/ArrayList" "java/util/ArrayList" "elementData" "[Ljava/lang/Object;") : Jvm.Cond).before a0 Z = true := hw _ (List.mem_of_getElem? (i := 57) rfl)
theorem wd58 {a0 : Array Value} {Z : State} (hw : ∀ d ∈ tables_1, d.before a0 Z = true) : ((Jvm.Cond.methodLink "com/example/dissect/dissect/RecentPlaces" (28 : Nat) ({ cls := "java/lang/Integer", name := "valueOf", desc := "(I)Ljava/lang/Integer;" } : Jvm.MethodName)) : Jvm.Cond).before a0 Z = true := hw _ (List.mem_of_getElem? (i := 58) rfl)
theorem wd59 {a0 : Array Value} {Z : State} (hw : ∀ d ∈ tables_1, d.before a0 Z = true) : ((Jvm.Cond.static ({ cls := "java/lang/Integer", name := "valueOf", desc := "(I)Ljava/lang/Integer;" } : Jvm.MethodName)) : Jvm.Cond).before a0 Z = true := hw _ (List.mem_of_getElem? (i := 59) rfl)
theorem wd60 {a0 : Array Value} {Z : State} (hw : ∀ d ∈ tables_1, d.before a0 Z = true) : ((Jvm.Cond.initialized "java/lang/Integer") : Jvm.Cond).before a0 Z = true := hw _ (List.mem_of_getElem? (i := 60) rfl)
theorem wd61 {a0 : Array Value} {Z : State} (hw : ∀ d ∈ tables_1, d.before a0 Z = true) : ((Jvm.Cond.code ({ cls := "java/lang/Integer", name := "valueOf", desc := "(I)Ljava/lang/Integer;" } : Jvm.MethodName) jdk_33_method_22_code (1 : Nat) (Option.some (Jvm.ClassFile.FieldType.object "java/lang/Integer"))) : Jvm.Cond).before a0 Z = true := hw _ (List.mem_of_getElem? (i := 61) rfl)
theorem wd62 {a0 : Array Value} {Z : State} (hw : ∀ d ∈ tables_1, d.before a0 Z = true) : ((Jvm.Cond.fieldLink "java/lang/Integer" (191 : Nat) "java/lang/Integer$IntegerCache" "high" "I") : Jvm.Cond).before a0 Z = true := hw _ (List.mem_of_getElem? (i := 62) rfl)
theorem wd63 {a0 : Array Value} {Z : State} (hw : ∀ d ∈ tables_1, d.before a0 Z = true) : ((Jvm.Cond.initialized "java/lang/Integer$IntegerCache") : Jvm.Cond).before a0 Z = true := hw _ (List.mem_of_getElem? (i := 63) rfl)
theorem wd64 {a0 : Array Value} {Z : State} (hw : ∀ d ∈ tables_1, d.before a0 Z = true) : ((Jvm.Cond.fieldLink "java/lang/Integer" (195 : Nat) "java/lang/Integer$IntegerCache" "cache" "[Ljava/lang/Integer;") : Jvm.Cond).before a0 Z = true := hw _ (List.mem_of_getElem? (i := 64) rfl)
theorem wd65 {a0 : Array Value} {Z : State} (hw : ∀ d ∈ tables_1, d.before a0 Z = true) : ((Jvm.Cond.methodLink "com/example/dissect/dissect/RecentPlaces" (34 : Nat) ({ cls := "java/util/List", name := "add", desc := "(Ljava/lang/Object;)Z" } : Jvm.MethodName)) : Jvm.Cond).before a0 Z = true := hw _ (List.mem_of_getElem? (i := 65) rfl)
theorem wd66 {a0 : Array Value} {Z : State} (hw : ∀ d ∈ tables_1, d.before a0 Z = true) : ((Jvm.Cond.declares ({ cls := "java/util/List", name := "add", desc := "(Ljava/lang/Object;)Z" } : Jvm.MethodName)) : Jvm.Cond).before a0 Z = true := hw _ (List.mem_of_getElem? (i := 66) rfl)
theorem wd67 {a0 : Array Value} {Z : State} (hw : ∀ d ∈ tables_1, d.before a0 Z = true) : ((Jvm.Cond.interfaceMethod "java/util/List" "java/util/List" "add" "(Ljava/lang/Object;)Z") : Jvm.Cond).before a0 Z = true := hw _ (List.mem_of_getElem? (i := 67) rfl)
theorem wd68 {a0 : Array Value} {Z : State} (hw : ∀ d ∈ tables_1, d.before a0 Z = true) : ((Jvm.Cond.selects "java/util/ArrayList" ({ cls := "java/util/List", name := "add", desc := "(Ljava/lang/Object;)Z" } : Jvm.MethodName) ({ cls := "java/util/ArrayList", name := "add", desc := "(Ljava/lang/Object;)Z" } : Jvm.MethodName)) : Jvm.Cond).before a0 Z = true := hw _ (List.mem_of_getElem? (i := 68) rfl)
theorem wd69 {a0 : Array Value} {Z : State} (hw : ∀ d ∈ tables_1, d.before a0 Z = true) : ((Jvm.Cond.instanceMethod ({ cls := "java/util/ArrayList", name := "add", desc := "(Ljava/lang/Object;)Z" } : Jvm.MethodName)) : Jvm.Cond).before a0 Z = true := hw _ (List.mem_of_getElem? (i := 69) rfl)
theorem wd70 {a0 : Array Value} {Z : State} (hw : ∀ d ∈ tables_1, d.before a0 Z = true) : ((Jvm.Cond.publicMethod ({ cls := "java/util/ArrayList", name := "add", desc := "(Ljava/lang/Object;)Z" } : Jvm.MethodName)) : Jvm.Cond).before a0 Z = true := hw _ (List.mem_of_getElem? (i := 70) rfl)
theorem wd71 {a0 : Array Value} {Z : State} (hw : ∀ d ∈ tables_1, d.before a0 Z = true) : ((Jvm.Cond.unhidden "java/util/ArrayList" "add" "(Ljava/lang/Object;)Z") : Jvm.Cond).before a0 Z = true := hw _ (List.mem_of_getElem? (i := 71) rfl)
theorem wd72 {a0 : Array Value} {Z : State} (hw : ∀ d ∈ tables_1, d.before a0 Z = true) : ((Jvm.Cond.castable "java/util/ArrayList" "java/util/List") : Jvm.Cond).before a0 Z = true := hw _ (List.mem_of_getElem? (i := 72) rfl)
theorem wd73 {a0 : Array Value} {Z : State} (hw : ∀ d ∈ tables_1, d.before a0 Z = true) : ((Jvm.Cond.code ({ cls := "java/util/ArrayList", name := "add", desc := "(Ljava/lang/Object;)Z" } : Jvm.MethodName) jdk_38_method_25_code (2 : Nat) (Option.some Jvm.ClassFile.FieldType.boolean)) : Jvm.Cond).before a0 Z = true := hw _ (List.mem_of_getElem? (i := 73) rfl)
theorem wd74 {a0 : Array Value} {Z : State} (hw : ∀ d ∈ tables_1, d.before a0 Z = true) : ((Jvm.Cond.fieldLink "java/util/ArrayList" (63 : Nat) "java/util/ArrayList" "modCount" "I") : Jvm.Cond).before a0 Z = true := hw _ (List.mem_of_getElem? (i := 74) rfl)
theorem wd75 {a0 : Array Value} {Z : State} (hw : ∀ d ∈ tables_1, d.before a0 Z = true) : ((Jvm.Cond.sameField "java/util/ArrayList" "java/util/AbstractList" "modCount" "I") : Jvm.Cond).before a0 Z = true := hw _ (List.mem_of_getElem? (i := 75) rfl)
theorem wd76 {a0 : Array Value} {Z : State} (hw : ∀ d ∈ tables_1, d.before a0 Z = true) : ((Jvm.Cond.fieldLink "java/util/ArrayList" (48 : Nat) "java/util/ArrayList" "size" "I") : Jvm.Cond).before a0 Z = true := hw _ (List.mem_of_getElem? (i := 76) rfl)
theorem wd77 {a0 : Array Value} {Z : State} (hw : ∀ d ∈ tables_1, d.before a0 Z = true) : ((Jvm.Cond.lays "java/util/ArrayList" "java/util/ArrayList" "size" "I") : Jvm.Cond).before a0 Z = true := hw _ (List.mem_of_getElem? (i := 77) rfl)
theorem wd78 {a0 : Array Value} {Z : State} (hw : ∀ d ∈ tables_1, d.before a0 Z = true) : ((Jvm.Cond.methodLink "java/util/ArrayList" (131 : Nat) ({ cls := "java/util/ArrayList", name := "add", desc := "(Ljava/lang/Object;[Ljava/lang/Object;I)V" } : Jvm.MethodName)) : Jvm.Cond).before a0 Z = true := hw _ (List.mem_of_getElem? (i := 78) rfl)
theorem wd79 {a0 : Array Value} {Z : State} (hw : ∀ d ∈ tables_1, d.before a0 Z = true) : ((Jvm.Cond.instanceMethod ({ cls := "java/util/ArrayList", name := "add", desc := "(Ljava/lang/Object;[Ljava/lang/Object;I)V" } : Jvm.MethodName)) : Jvm.Cond).before a0 Z = true := hw _ (List.mem_of_getElem? (i := 79) rfl)
theorem wd80 {a0 : Array Value} {Z : State} (hw : ∀ d ∈ tables_1, d.before a0 Z = true) : ((Jvm.Cond.privateMethod ({ cls := "java/util/ArrayList", name := "add", desc := "(Ljava/lang/Object;[Ljava/lang/Object;I)V" } : Jvm.MethodName)) : Jvm.Cond).before a0 Z = true := hw _ (List.mem_of_getElem? (i := 80) rfl)
theorem wd81 {a0 : Array Value} {Z : State} (hw : ∀ d ∈ tables_1, d.before a0 Z = true) : ((Jvm.Cond.selects "java/util/ArrayList" ({ cls := "java/util/ArrayList", name := "add", desc := "(Ljava/lang/Object;[Ljava/lang/Object;I)V" } : Jvm.MethodName) ({ cls := "java/util/ArrayList", name := "add", desc := "(Ljava/lang/Object;[Ljava/lang/Object;I)V" } : Jvm.MethodName)) : Jvm.Cond).before a0 Z = true := hw _ (List.mem_of_getElem? (i := 81) rfl)
theorem wd82 {a0 : Array Value} {Z : State} (hw : ∀ d ∈ tables_1, d.before a0 Z = true) : ((Jvm.Cond.code ({ cls := "java/util/ArrayList", name := "add", desc := "(Ljava/lang/Object;[Ljava/lang/Object;I)V" } : Jvm.MethodName) jdk_38_method_24_code (4 : Nat) (Option.none : Option Jvm.ClassFile.FieldType)) : Jvm.Cond).before a0 Z = true := hw _ (List.mem_of_getElem? (i := 82) rfl)
theorem wd83 {a0 : Array Value} {Z : State} (hw : ∀ d ∈ tables_1, d.before a0 Z = true) : ((Jvm.Cond.castable "java/lang/Integer" "java/lang/Object") : Jvm.Cond).before a0 Z = true := hw _ (List.mem_of_getElem? (i := 83) rfl)
theorem wd84 {a0 : Array Value} {Z : State} (hw : ∀ d ∈ tables_1, d.before a0 Z = true) : ((Jvm.Cond.methodLink "com/example/dissect/dissect/RecentPlacesPutPinLaw" (7 : Nat) ({ cls := "java/util/List", name := "size", desc := "()I" } : Jvm.MethodName)) : Jvm.Cond).before a0 Z = true := hw _ (List.mem_of_getElem? (i := 84) rfl)
theorem wd85 {a0 : Array Value} {Z : State} (hw : ∀ d ∈ tables_1, d.before a0 Z = true) : ((Jvm.Cond.declares ({ cls := "java/util/List", name := "size", desc := "()I" } : Jvm.MethodName)) : Jvm.Cond).before a0 Z = true := hw _ (List.mem_of_getElem? (i := 85) rfl)
theorem wd86 {a0 : Array Value} {Z : State} (hw : ∀ d ∈ tables_1, d.before a0 Z = true) : ((Jvm.Cond.interfaceMethod "java/util/List" "java/util/List" "size" "()I") : Jvm.Cond).before a0 Z = true := hw _ (List.mem_of_getElem? (i := 86) rfl)
theorem wd87 {a0 : Array Value} {Z : State} (hw : ∀ d ∈ tables_1, d.before a0 Z = true) : ((Jvm.Cond.selects "java/util/ArrayList" ({ cls := "java/util/List", name := "size", desc := "()I" } : Jvm.MethodName) ({ cls := "java/util/ArrayList", name := "size", desc := "()I" } : Jvm.MethodName)) : Jvm.Cond).before a0 Z = true := hw _ (List.mem_of_getElem? (i := 87) rfl)
theorem wd88 {a0 : Array Value} {Z : State} (hw : ∀ d ∈ tables_1, d.before a0 Z = true) : ((Jvm.Cond.instanceMethod ({ cls := "java/util/ArrayList", name := "size", desc := "()I" } : Jvm.MethodName)) : Jvm.Cond).before a0 Z = true := hw _ (List.mem_of_getElem? (i := 88) rfl)
theorem wd89 {a0 : Array Value} {Z : State} (hw : ∀ d ∈ tables_1, d.before a0 Z = true) : ((Jvm.Cond.publicMethod ({ cls := "java/util/ArrayList", name := "size", desc := "()I" } : Jvm.MethodName)) : Jvm.Cond).before a0 Z = true := hw _ (List.mem_of_getElem? (i := 89) rfl)
theorem wd90 {a0 : Array Value} {Z : State} (hw : ∀ d ∈ tables_1, d.before a0 Z = true) : ((Jvm.Cond.unhidden "java/util/ArrayList" "size" "()I") : Jvm.Cond).before a0 Z = true := hw _ (List.mem_of_getElem? (i := 90) rfl)
theorem wd91 {a0 : Array Value} {Z : State} (hw : ∀ d ∈ tables_1, d.before a0 Z = true) : ((Jvm.Cond.code ({ cls := "java/util/ArrayList", name := "size", desc := "()I" } : Jvm.MethodName) jdk_38_method_8_code (1 : Nat) (Option.some Jvm.ClassFile.FieldType.int)) : Jvm.Cond).before a0 Z = true := hw _ (List.mem_of_getElem? (i := 91) rfl)
theorem wd92 {a0 : Array Value} {Z : State} (hw : ∀ d ∈ tables_1, d.before a0 Z = true) : ((Jvm.Cond.methodLink "com/example/dissect/dissect/RecentPlacesPutPinLaw" (46 : Nat) ({ cls := "com/example/dissect/dissect/RecentPlacesPutPinLaw", name := "step", desc := "(Ljava/util/List;IIIIII)I" } : Jvm.MethodName)) : Jvm.Cond).before a0 Z = true := hw _ (List.mem_of_getElem? (i := 92) rfl)
theorem wd93 {a0 : Array Value} {Z : State} (hw : ∀ d ∈ tables_1, d.before a0 Z = true) : ((Jvm.Cond.static ({ cls := "com/example/dissect/dissect/RecentPlacesPutPinLaw", name := "step", desc := "(Ljava/util/List;IIIIII)I" } : Jvm.MethodName)) : Jvm.Cond).before a0 Z = true := hw _ (List.mem_of_getElem? (i := 93) rfl)
theorem wd94 {a0 : Array Value} {Z : State} (hw : ∀ d ∈ tables_1, d.before a0 Z = true) : ((Jvm.Cond.code ({ cls := "com/example/dissect/dissect/RecentPlacesPutPinLaw", name := "step", desc := "(Ljava/util/List;IIIIII)I" } : Jvm.MethodName) method_4_code (9 : Nat) (Option.some Jvm.ClassFile.FieldType.int)) : Jvm.Cond).before a0 Z = true := hw _ (List.mem_of_getElem? (i := 94) rfl)
theorem wd95 {a0 : Array Value} {Z : State} (hw : ∀ d ∈ tables_1, d.before a0 Z = true) : ((Jvm.Cond.methodLink "com/example/dissect/dissect/RecentPlacesPutPinLaw" (13 : Nat) ({ cls := "java/util/List", name := "get", desc := "(I)Ljava/lang/Object;" } : Jvm.MethodName)) : Jvm.Cond).before a0 Z = true := hw _ (List.mem_of_getElem? (i := 95) rfl)
theorem wd96 {a0 : Array Value} {Z : State} (hw : ∀ d ∈ tables_1, d.before a0 Z = true) : ((Jvm.Cond.declares ({ cls := "java/util/List", name := "get", desc := "(I)Ljava/lang/Object;" } : Jvm.MethodName)) : Jvm.Cond).before a0 Z = true := hw _ (List.mem_of_getElem? (i := 96) rfl)
theorem wd97 {a0 : Array Value} {Z : State} (hw : ∀ d ∈ tables_1, d.before a0 Z = true) : ((Jvm.Cond.interfaceMethod "java/util/List" "java/util/List" "get" "(I)Ljava/lang/Object;") : Jvm.Cond).before a0 Z = true := hw _ (List.mem_of_getElem? (i := 97) rfl)
theorem wd98 {a0 : Array Value} {Z : State} (hw : ∀ d ∈ tables_1, d.before a0 Z = true) : ((Jvm.Cond.selects "java/util/ArrayList" ({ cls := "java/util/List", name := "get", desc := "(I)Ljava/lang/Object;" } : Jvm.MethodName) ({ cls := "java/util/ArrayList", name := "get", desc := "(I)Ljava/lang/Object;" } : Jvm.MethodName)) : Jvm.Cond).before a0 Z = true := hw _ (List.mem_of_getElem? (i := 98) rfl)
theorem wd99 {a0 : Array Value} {Z : State} (hw : ∀ d ∈ tables_1, d.before a0 Z = true) : ((Jvm.Cond.instanceMethod ({ cls := "java/util/ArrayList", name := "get", desc := "(I)Ljava/lang/Object;" } : Jvm.MethodName)) : Jvm.Cond).before a0 Z = true := hw _ (List.mem_of_getElem? (i := 99) rfl)
theorem wd100 {a0 : Array Value} {Z : State} (hw : ∀ d ∈ tables_1, d.before a0 Z = true) : ((Jvm.Cond.publicMethod ({ cls := "java/util/ArrayList", name := "get", desc := "(I)Ljava/lang/Object;" } : Jvm.MethodName)) : Jvm.Cond).before a0 Z = true := hw _ (List.mem_of_getElem? (i := 100) rfl)
theorem wd101 {a0 : Array Value} {Z : State} (hw : ∀ d ∈ tables_1, d.before a0 Z = true) : ((Jvm.Cond.unhidden "java/util/ArrayList" "get" "(I)Ljava/lang/Object;") : Jvm.Cond).before a0 Z = true := hw _ (List.mem_of_getElem? (i := 101) rfl)
theorem wd102 {a0 : Array Value} {Z : State} (hw : ∀ d ∈ tables_1, d.before a0 Z = true) : ((Jvm.Cond.code ({ cls := "java/util/ArrayList", name := "get", desc := "(I)Ljava/lang/Object;" } : Jvm.MethodName) jdk_38_method_20_code (2 : Nat) (Option.some (Jvm.ClassFile.FieldType.object "java/lang/Object"))) : Jvm.Cond).before a0 Z = true := hw _ (List.mem_of_getElem? (i := 102) rfl)
theorem wd103 {a0 : Array Value} {Z : State} (hw : ∀ d ∈ tables_1, d.before a0 Z = true) : ((Jvm.Cond.methodLink "java/util/ArrayList" (118 : Nat) ({ cls := "java/util/Objects", name := "checkIndex", desc := "(II)I" } : Jvm.MethodName)) : Jvm.Cond).before a0 Z = true := hw _ (List.mem_of_getElem? (i := 103) rfl)
theorem wd104 {a0 : Array Value} {Z : State} (hw : ∀ d ∈ tables_1, d.before a0 Z = true) : ((Jvm.Cond.static ({ cls := "java/util/Objects", name := "checkIndex", desc := "(II)I" } : Jvm.MethodName)) : Jvm.Cond).before a0 Z = true := hw _ (List.mem_of_getElem? (i := 104) rfl)
theorem wd105 {a0 : Array Value} {Z : State} (hw : ∀ d ∈ tables_1, d.before a0 Z = true) : ((Jvm.Cond.initialized "java/util/Objects") : Jvm.Cond).before a0 Z = true := hw _ (List.mem_of_getElem? (i := 105) rfl)
theorem wd106 {a0 : Array Value} {Z : State} (hw : ∀ d ∈ tables_1, d.before a0 Z = true) : ((Jvm.Cond.code ({ cls := "java/util/Objects", name := "checkIndex", desc := "(II)I" } : Jvm.MethodName) jdk_31_method_17_code (2 : Nat) (Option.some Jvm.ClassFile.FieldType.int)) : Jvm.Cond).before a0 Z = true := hw _ (List.mem_of_getElem? (i := 106) rfl)
theorem wd107 {a0 : Array Value} {Z : State} (hw : ∀ d ∈ tables_1, d.before a0 Z = true) : ((Jvm.Cond.methodLink "java/util/Objects" (105 : Nat) ({ cls := "jdk/internal/util/Preconditions", name := "checkIndex", desc := "(IILjava/util/function/BiFunction;)I" } : Jvm.MethodName)) : Jvm.Cond).before a0 Z = true := hw _ (List.mem_of_getElem? (i := 107) rfl)
theorem wd108 {a0 : Array Value} {Z : State} (hw : ∀ d ∈ tables_1, d.before a0 Z = true) : ((Jvm.Cond.static ({ cls := "jdk/internal/util/Preconditions", name := "checkIndex", desc := "(IILjava/util/function/BiFunction;)I" } : Jvm.MethodName)) : Jvm.Cond).before a0 Z = true := hw _ (List.mem_of_getElem? (i := 108) rfl)
theorem wd109 {a0 : Array Value} {Z : State} (hw : ∀ d ∈ tables_1, d.before a0 Z = true) : ((Jvm.Cond.initialized "jdk/internal/util/Preconditions") : Jvm.Cond).before a0 Z = true := hw _ (List.mem_of_getElem? (i := 109) rfl)
theorem wd110 {a0 : Array Value} {Z : State} (hw : ∀ d ∈ tables_1, d.before a0 Z = true) : ((Jvm.Cond.code ({ cls := "jdk/internal/util/Preconditions", name := "checkIndex", desc := "(IILjava/util/function/BiFunction;)I" } : Jvm.MethodName) jdk_41_method_11_code (3 : Nat) (Option.some Jvm.ClassFile.FieldType.int)) : Jvm.Cond).before a0 Z = true := hw _ (List.mem_of_getElem? (i := 110) rfl)
theorem wd111 {a0 : Array Value} {Z : State} (hw : ∀ d ∈ tables_1, d.before a0 Z = true) : ((Jvm.Cond.methodLink "java/util/ArrayList" (123 : Nat) ({ cls := "java/util/ArrayList", name := "elementData", desc := "(I)Ljava/lang/Object;" } : Jvm.MethodName)) : Jvm.Cond).before a0 Z = true := hw _ (List.mem_of_getElem? (i := 111) rfl)
theorem wd112 {a0 : Array Value} {Z : State} (hw : ∀ d ∈ tables_1, d.before a0 Z = true) : ((Jvm.Cond.declares ({ cls := "java/util/ArrayList", name := "elementData", desc := "(I)Ljava/lang/Object;" } : Jvm.MethodName)) : Jvm.Cond).before a0 Z = true := hw _ (List.mem_of_getElem? (i := 112) rfl)
theorem wd113 {a0 : Array Value} {Z : State} (hw : ∀ d ∈ tables_1, d.before a0 Z = true) : ((Jvm.Cond.instanceMethod ({ cls := "java/util/ArrayList", name := "elementData", desc := "(I)Ljava/lang/Object;" } : Jvm.MethodName)) : Jvm.Cond).before a0 Z = true := hw _ (List.mem_of_getElem? (i := 113) rfl)
theorem wd114 {a0 : Array Value} {Z : State} (hw : ∀ d ∈ tables_1, d.before a0 Z = true) : ((Jvm.Cond.selects "java/util/ArrayList" ({ cls := "java/util/ArrayList", name := "elementData", desc := "(I)Ljava/lang/Object;" } : Jvm.MethodName) ({ cls := "java/util/ArrayList", name := "elementData", desc := "(I)Ljava/lang/Object;" } : Jvm.MethodName)) : Jvm.Cond).before a0 Z = true := hw _ (List.mem_of_getElem? (i := 114) rfl)
theorem wd115 {a0 : Array Value} {Z : State} (hw : ∀ d ∈ tables_1, d.before a0 Z = true) : ((Jvm.Cond.code ({ cls := "java/util/ArrayList", name := "elementData", desc := "(I)Ljava/lang/Object;" } : Jvm.MethodName) jdk_38_method_18_code (2 : Nat) (Option.some (Jvm.ClassFile.FieldType.object "java/lang/Object"))) : Jvm.Cond).before a0 Z = true := hw _ (List.mem_of_getElem? (i := 115) rfl)
theorem wd116 {a0 : Array Value} {Z : State} (hw : ∀ d ∈ tables_1, d.before a0 Z = true) : ((Jvm.Cond.classLink "com/example/dissect/dissect/RecentPlacesPutPinLaw" (17 : Nat) "java/lang/Integer") : Jvm.Cond).before a0 Z = true := hw _ (List.mem_of_getElem? (i := 116) rfl)
theorem wd118 {a0 : Array Value} {Z : State} (hw : ∀ d ∈ tables_1, d.before a0 Z = true) : ((Jvm.Cond.methodLink "com/example/dissect/dissect/RecentPlacesPutPinLaw" (19 : Nat) ({ cls := "java/lang/Integer", name := "intValue", desc := "()I" } : Jvm.MethodName)) : Jvm.Cond).before a0 Z = true := hw _ (List.mem_of_getElem? (i := 118) rfl)
theorem wd119 {a0 : Array Value} {Z : State} (hw : ∀ d ∈ tables_1, d.before a0 Z = true) : ((Jvm.Cond.declares ({ cls := "java/lang/Integer", name := "intValue", desc := "()I" } : Jvm.MethodName)) : Jvm.Cond).before a0 Z = true := hw _ (List.mem_of_getElem? (i := 119) rfl)
theorem wd120 {a0 : Array Value} {Z : State} (hw : ∀ d ∈ tables_1, d.before a0 Z = true) : ((Jvm.Cond.instanceMethod ({ cls := "java/lang/Integer", name := "intValue", desc := "()I" } : Jvm.MethodName)) : Jvm.Cond).before a0 Z = true := hw _ (List.mem_of_getElem? (i := 120) rfl)
theorem wd121 {a0 : Array Value} {Z : State} (hw : ∀ d ∈ tables_1, d.before a0 Z = true) : ((Jvm.Cond.selects "java/lang/Integer" ({ cls := "java/lang/Integer", name := "intValue", desc := "()I" } : Jvm.MethodName) ({ cls := "java/lang/Integer", name := "intValue", desc := "()I" } : Jvm.MethodName)) : Jvm.Cond).before a0 Z = true := hw _ (List.mem_of_getElem? (i := 121) rfl)
theorem wd122 {a0 : Array Value} {Z : State} (hw : ∀ d ∈ tables_1, d.before a0 Z = true) : ((Jvm.Cond.code ({ cls := "java/lang/Integer", name := "intValue", desc := "()I" } : Jvm.MethodName) jdk_33_method_27_code (1 : Nat) (Option.some Jvm.ClassFile.FieldType.int)) : Jvm.Cond).before a0 Z = true := hw _ (List.mem_of_getElem? (i := 122) rfl)
theorem wd123 {a0 : Array Value} {Z : State} (hw : ∀ d ∈ tables_1, d.before a0 Z = true) : ((Jvm.Cond.fieldLink "java/lang/Integer" (205 : Nat) "java/lang/Integer" "value" "I") : Jvm.Cond).before a0 Z = true := hw _ (List.mem_of_getElem? (i := 123) rfl)
theorem wd125 {a0 : Array Value} {Z : State} (hw : ∀ d ∈ tables_1, d.before a0 Z = true) : ((Jvm.Cond.methodLink "com/example/dissect/dissect/RecentPlacesPutPinLaw" (22 : Nat) ({ cls := "com/example/dissect/dissect/RecentPlacesPutPinLaw", name := "lastOf", desc := "(IIIII)I" } : Jvm.MethodName)) : Jvm.Cond).before a0 Z = true := hw _ (List.mem_of_getElem? (i := 125) rfl)
theorem wd126 {a0 : Array Value} {Z : State} (hw : ∀ d ∈ tables_1, d.before a0 Z = true) : ((Jvm.Cond.static ({ cls := "com/example/dissect/dissect/RecentPlacesPutPinLaw", name := "lastOf", desc := "(IIIII)I" } : Jvm.MethodName)) : Jvm.Cond).before a0 Z = true := hw _ (List.mem_of_getElem? (i := 126) rfl)
theorem wd127 {a0 : Array Value} {Z : State} (hw : ∀ d ∈ tables_1, d.before a0 Z = true) : ((Jvm.Cond.code ({ cls := "com/example/dissect/dissect/RecentPlacesPutPinLaw", name := "lastOf", desc := "(IIIII)I" } : Jvm.MethodName) method_2_code (5 : Nat) (Option.some Jvm.ClassFile.FieldType.int)) : Jvm.Cond).before a0 Z = true := hw _ (List.mem_of_getElem? (i := 127) rfl)
theorem wd128 {a0 : Array Value} {Z : State} (hw : ∀ d ∈ tables_1, d.before a0 Z = true) : ((Jvm.Cond.methodLink "com/example/dissect/dissect/RecentPlacesPutPinLaw" (50 : Nat) ({ cls := "com/example/dissect/dissect/RecentPlaces", name := "putAt", desc := "(I)I" } : Jvm.MethodName)) : Jvm.Cond).before a0 Z = true := hw _ (List.mem_of_getElem? (i := 128) rfl)
theorem wd129 {a0 : Array Value} {Z : State} (hw : ∀ d ∈ tables_1, d.before a0 Z = true) : ((Jvm.Cond.declares ({ cls := "com/example/dissect/dissect/RecentPlaces", name := "putAt", desc := "(I)I" } : Jvm.MethodName)) : Jvm.Cond).before a0 Z = true := hw _ (List.mem_of_getElem? (i := 129) rfl)
theorem wd130 {a0 : Array Value} {Z : State} (hw : ∀ d ∈ tables_1, d.before a0 Z = true) : ((Jvm.Cond.instanceMethod ({ cls := "com/example/dissect/dissect/RecentPlaces", name := "putAt", desc := "(I)I" } : Jvm.MethodName)) : Jvm.Cond).before a0 Z = true := hw _ (List.mem_of_getElem? (i := 130) rfl)
theorem wd131 {a0 : Array Value} {Z : State} (hw : ∀ d ∈ tables_1, d.before a0 Z = true) : ((Jvm.Cond.selects "com/example/dissect/dissect/RecentPlaces" ({ cls := "com/example/dissect/dissect/RecentPlaces", name := "putAt", desc := "(I)I" } : Jvm.MethodName) ({ cls := "com/example/dissect/dissect/RecentPlaces", name := "putAt", desc := "(I)I" } : Jvm.MethodName)) : Jvm.Cond).before a0 Z = true := hw _ (List.mem_of_getElem? (i := 131) rfl)
theorem wd132 {a0 : Array Value} {Z : State} (hw : ∀ d ∈ tables_1, d.before a0 Z = true) : ((Jvm.Cond.code ({ cls := "com/example/dissect/dissect/RecentPlaces", name := "putAt", desc := "(I)I" } : Jvm.MethodName) prog_102_method_4_code (2 : Nat) (Option.some Jvm.ClassFile.FieldType.int)) : Jvm.Cond).before a0 Z = true := hw _ (List.mem_of_getElem? (i := 132) rfl)
theorem wd133 {a0 : Array Value} {Z : State} (hw : ∀ d ∈ tables_1, d.before a0 Z = true) : ((Jvm.Cond.methodLink "java/util/ArrayList" (129 : Nat) ({ cls := "java/util/ArrayList", name := "grow", desc := "()[Ljava/lang/Object;" } : Jvm.MethodName)) : Jvm.Cond).before a0 Z = true := hw _ (List.mem_of_getElem? (i := 133) rfl)
theorem wd134 {a0 : Array Value} {Z : State} (hw : ∀ d ∈ tables_1, d.before a0 Z = true) : ((Jvm.Cond.instanceMethod ({ cls := "java/util/ArrayList", name := "grow", desc := "()[Ljava/lang/Object;" } : Jvm.MethodName)) : Jvm.Cond).before a0 Z = true := hw _ (List.mem_of_getElem? (i := 134) rfl)
theorem wd135 {a0 : Array Value} {Z : State} (hw : ∀ d ∈ tables_1, d.before a0 Z = true) : ((Jvm.Cond.privateMethod ({ cls := "java/util/ArrayList", name := "grow", desc := "()[Ljava/lang/Object;" } : Jvm.MethodName)) : Jvm.Cond).before a0 Z = true := hw _ (List.mem_of_getElem? (i := 135) rfl)
theorem wd136 {a0 : Array Value} {Z : State} (hw : ∀ d ∈ tables_1, d.before a0 Z = true) : ((Jvm.Cond.selects "java/util/ArrayList" ({ cls := "java/util/ArrayList", name := "grow", desc := "()[Ljava/lang/Object;" } : Jvm.MethodName) ({ cls := "java/util/ArrayList", name := "grow", desc := "()[Ljava/lang/Object;" } : Jvm.MethodName)) : Jvm.Cond).before a0 Z = true := hw _ (List.mem_of_getElem? (i := 136) rfl)
theorem wd137 {a0 : Array Value} {Z : State} (hw : ∀ d ∈ tables_1, d.before a0 Z = true) : ((Jvm.Cond.code ({ cls := "java/util/ArrayList", name := "grow", desc := "()[Ljava/lang/Object;" } : Jvm.MethodName) jdk_38_method_7_code (1 : Nat) (Option.some (Jvm.ClassFile.FieldType.array (Jvm.ClassFile.FieldType.object "java/lang/Object")))) : Jvm.Cond).before a0 Z = true := hw _ (List.mem_of_getElem? (i := 137) rfl)
theorem wd138 {a0 : Array Value} {Z : State} (hw : ∀ d ∈ tables_1, d.before a0 Z = true) : ((Jvm.Cond.methodLink "java/util/ArrayList" (69 : Nat) ({ cls := "java/util/ArrayList", name := "grow", desc := "(I)[Ljava/lang/Object;" } : Jvm.MethodName)) : Jvm.Cond).before a0 Z = true := hw _ (List.mem_of_getElem? (i := 138) rfl)
theorem wd139 {a0 : Array Value} {Z : State} (hw : ∀ d ∈ tables_1, d.before a0 Z = true) : ((Jvm.Cond.instanceMethod ({ cls := "java/util/ArrayList", name := "grow", desc := "(I)[Ljava/lang/Object;" } : Jvm.MethodName)) : Jvm.Cond).before a0 Z = true := hw _ (List.mem_of_getElem? (i := 139) rfl)
theorem wd140 {a0 : Array Value} {Z : State} (hw : ∀ d ∈ tables_1, d.before a0 Z = true) : ((Jvm.Cond.privateMethod ({ cls := "java/util/ArrayList", name := "grow", desc := "(I)[Ljava/lang/Object;" } : Jvm.MethodName)) : Jvm.Cond).before a0 Z = true := hw _ (List.mem_of_getElem? (i := 140) rfl)
theorem wd141 {a0 : Array Value} {Z : State} (hw : ∀ d ∈ tables_1, d.before a0 Z = true) : ((Jvm.Cond.selects "java/util/ArrayList" ({ cls := "java/util/ArrayList", name := "grow", desc := "(I)[Ljava/lang/Object;" } : Jvm.MethodName) ({ cls := "java/util/ArrayList", name := "grow", desc := "(I)[Ljava/lang/Object;" } : Jvm.MethodName)) : Jvm.Cond).before a0 Z = true := hw _ (List.mem_of_getElem? (i := 141) rfl)
theorem wd142 {a0 : Array Value} {Z : State} (hw : ∀ d ∈ tables_1, d.before a0 Z = true) : ((Jvm.Cond.code ({ cls := "java/util/ArrayList", name := "grow", desc := "(I)[Ljava/lang/Object;" } : Jvm.MethodName) jdk_38_method_6_code (4 : Nat) (Option.some (Jvm.ClassFile.FieldType.array (Jvm.ClassFile.FieldType.object "java/lang/Object")))) : Jvm.Cond).before a0 Z = true := hw _ (List.mem_of_getElem? (i := 142) rfl)
theorem wd143 {a0 : Array Value} {Z : State} (hw : ∀ d ∈ tables_1, d.before a0 Z = true) : ((Jvm.Cond.methodLink "java/util/ArrayList" (73 : Nat) ({ cls := "jdk/internal/util/ArraysSupport", name := "newLength", desc := "(III)I" } : Jvm.MethodName)) : Jvm.Cond).before a0 Z = true := hw _ (List.mem_of_getElem? (i := 143) rfl)
theorem wd144 {a0 : Array Value} {Z : State} (hw : ∀ d ∈ tables_1, d.before a0 Z = true) : ((Jvm.Cond.static ({ cls := "jdk/internal/util/ArraysSupport", name := "newLength", desc := "(III)I" } : Jvm.MethodName)) : Jvm.Cond).before a0 Z = true := hw _ (List.mem_of_getElem? (i := 144) rfl)
theorem wd145 {a0 : Array Value} {Z : State} (hw : ∀ d ∈ tables_1, d.before a0 Z = true) : ((Jvm.Cond.initialized "jdk/internal/util/ArraysSupport") : Jvm.Cond).before a0 Z = true := hw _ (List.mem_of_getElem? (i := 145) rfl)
theorem wd146 {a0 : Array Value} {Z : State} (hw : ∀ d ∈ tables_1, d.before a0 Z = true) : ((Jvm.Cond.code ({ cls := "jdk/internal/util/ArraysSupport", name := "newLength", desc := "(III)I" } : Jvm.MethodName) jdk_48_method_27_code (4 : Nat) (Option.some Jvm.ClassFile.FieldType.int)) : Jvm.Cond).before a0 Z = true := hw _ (List.mem_of_getElem? (i := 146) rfl)
theorem wd147 {a0 : Array Value} {Z : State} (hw : ∀ d ∈ tables_1, d.before a0 Z = true) : ((Jvm.Cond.methodLink "jdk/internal/util/ArraysSupport" (194 : Nat) ({ cls := "java/lang/Math", name := "max", desc := "(II)I" } : Jvm.MethodName)) : Jvm.Cond).before a0 Z = true := hw _ (List.mem_of_getElem? (i := 147) rfl)
theorem wd148 {a0 : Array Value} {Z : State} (hw : ∀ d ∈ tables_1, d.before a0 Z = true) : ((Jvm.Cond.static ({ cls := "java/lang/Math", name := "max", desc := "(II)I" } : Jvm.MethodName)) : Jvm.Cond).before a0 Z = true := hw _ (List.mem_of_getElem? (i := 148) rfl)
theorem wd149 {a0 : Array Value} {Z : State} (hw : ∀ d ∈ tables_1, d.before a0 Z = true) : ((Jvm.Cond.initialized "java/lang/Math") : Jvm.Cond).before a0 Z = true := hw _ (List.mem_of_getElem? (i := 149) rfl)
theorem wd150 {a0 : Array Value} {Z : State} (hw : ∀ d ∈ tables_1, d.before a0 Z = true) : ((Jvm.Cond.code ({ cls := "java/lang/Math", name := "max", desc := "(II)I" } : Jvm.MethodName) jdk_29_method_65_code (2 : Nat) (Option.some Jvm.ClassFile.FieldType.int)) : Jvm.Cond).before a0 Z = true := hw _ (List.mem_of_getElem? (i := 150) rfl)
theorem wd151 {a0 : Array Value} {Z : State} (hw : ∀ d ∈ tables_1, d.before a0 Z = true) : ((Jvm.Cond.constant "jdk/internal/util/ArraysSupport" (200 : Nat) (2147483639 : Int32)) : Jvm.Cond).before a0 Z = true := hw _ (List.mem_of_getElem? (i := 151) rfl)
theorem wd152 {a0 : Array Value} {Z : State} (hw : ∀ d ∈ tables_1, d.before a0 Z = true) : ((Jvm.Cond.methodLink "java/util/ArrayList" (66 : Nat) ({ cls := "java/util/Arrays", name := "copyOf", desc := "([Ljava/lang/Object;I)[Ljava/lang/Object;" } : Jvm.MethodName)) : Jvm.Cond).before a0 Z = true := hw _ (List.mem_of_getElem? (i := 152) rfl)
theorem wd153 {a0 : Array Value} {Z : State} (hw : ∀ d ∈ tables_1, d.before a0 Z = true) : ((Jvm.Cond.static ({ cls := "java/util/Arrays", name := "copyOf", desc := "([Ljava/lang/Object;I)[Ljava/lang/Object;" } : Jvm.MethodName)) : Jvm.Cond).before a0 Z = true := hw _ (List.mem_of_getElem? (i := 153) rfl)
theorem wd154 {a0 : Array Value} {Z : State} (hw : ∀ d ∈ tables_1, d.before a0 Z = true) : ((Jvm.Cond.initialized "java/util/Arrays") : Jvm.Cond).before a0 Z = true := hw _ (List.mem_of_getElem? (i := 154) rfl)
theorem wd155 {a0 : Array Value} {Z : State} (hw : ∀ d ∈ tables_1, d.before a0 Z = true) : ((Jvm.Cond.code ({ cls := "java/util/Arrays", name := "copyOf", desc := "([Ljava/lang/Object;I)[Ljava/lang/Object;" } : Jvm.MethodName) jdk_65_method_119_code (2 : Nat) (Option.some (Jvm.ClassFile.FieldType.array (Jvm.ClassFile.FieldType.object "java/lang/Object")))) : Jvm.Cond).before a0 Z = true := hw _ (List.mem_of_getElem? (i := 155) rfl)
theorem wd156 {a0 : Array Value} {Z : State} (hw : ∀ d ∈ tables_1, d.before a0 Z = true) : ((Jvm.Cond.methodLink "java/util/Arrays" (86 : Nat) ({ cls := "java/lang/Object", name := "getClass", desc := "()Ljava/lang/Class;" } : Jvm.MethodName)) : Jvm.Cond).before a0 Z = true := hw _ (List.mem_of_getElem? (i := 156) rfl)
theorem wd157 {a0 : Array Value} {Z : State} (hw : ∀ d ∈ tables_1, d.before a0 Z = true) : ((Jvm.Cond.declares ({ cls := "java/lang/Object", name := "getClass", desc := "()Ljava/lang/Class;" } : Jvm.MethodName)) : Jvm.Cond).before a0 Z = true := hw _ (List.mem_of_getElem? (i := 157) rfl)
theorem wd158 {a0 : Array Value} {Z : State} (hw : ∀ d ∈ tables_1, d.before a0 Z = true) : ((Jvm.Cond.instanceMethod ({ cls := "java/lang/Object", name := "getClass", desc := "()Ljava/lang/Class;" } : Jvm.MethodName)) : Jvm.Cond).before a0 Z = true := hw _ (List.mem_of_getElem? (i := 158) rfl)
theorem wd159 {a0 : Array Value} {Z : State} (hw : ∀ d ∈ tables_1, d.before a0 Z = true) : ((Jvm.Cond.selects "[Ljava/lang/Object;" ({ cls := "java/lang/Object", name := "getClass", desc := "()Ljava/lang/Class;" } : Jvm.MethodName) ({ cls := "java/lang/Object", name := "getClass", desc := "()Ljava/lang/Class;" } : Jvm.MethodName)) : Jvm.Cond).before a0 Z = true := hw _ (List.mem_of_getElem? (i := 159) rfl)
theorem wd160 {a0 : Array Value} {Z : State} (hw : ∀ d ∈ tables_1, d.before a0 Z = true) : ((Jvm.Cond.native ({ cls := "java/lang/Object", name := "getClass", desc := "()Ljava/lang/Class;" } : Jvm.MethodName)) : Jvm.Cond).before a0 Z = true := hw _ (List.mem_of_getElem? (i := 160) rfl)
theorem wd162 {a0 : Array Value} {Z : State} (hw : ∀ d ∈ tables_1, d.before a0 Z = true) : ((Jvm.Cond.methodLink "java/util/Arrays" (300 : Nat) ({ cls := "java/util/Arrays", name := "copyOf", desc := "([Ljava/lang/Object;ILjava/lang/Class;)[Ljava/lang/Object;" } : Jvm.MethodName)) : Jvm.Cond).before a0 Z = true := hw _ (List.mem_of_getElem? (i := 162) rfl)
theorem wd163 {a0 : Array Value} {Z : State} (hw : ∀ d ∈ tables_1, d.before a0 Z = true) : ((Jvm.Cond.static ({ cls := "java/util/Arrays", name := "copyOf", desc := "([Ljava/lang/Object;ILjava/lang/Class;)[Ljava/lang/Object;" } : Jvm.MethodName)) : Jvm.Cond).before a0 Z = true := hw _ (List.mem_of_getElem? (i := 163) rfl)
theorem wd164 {a0 : Array Value} {Z : State} (hw : ∀ d ∈ tables_1, d.before a0 Z = true) : ((Jvm.Cond.code ({ cls := "java/util/Arrays", name := "copyOf", desc := "([Ljava/lang/Object;ILjava/lang/Class;)[Ljava/lang/Object;" } : Jvm.MethodName) jdk_65_method_120_code (4 : Nat) (Option.some (Jvm.ClassFile.FieldType.array (Jvm.ClassFile.FieldType.object "java/lang/Object")))) : Jvm.Cond).before a0 Z = true := hw _ (List.mem_of_getElem? (i := 164) rfl)
theorem wd165 {a0 : Array Value} {Z : State} (hw : ∀ d ∈ tables_1, d.before a0 Z = true) : ((Jvm.Cond.classLink "java/util/Arrays" (110 : Nat) "[Ljava/lang/Object;") : Jvm.Cond).before a0 Z = true := hw _ (List.mem_of_getElem? (i := 165) rfl)
theorem wd166 {a0 : Array Value} {Z : State} (hw : ∀ d ∈ tables_1, d.before a0 Z = true) : ((Jvm.Cond.classLink "java/util/Arrays" (2 : Nat) "java/lang/Object") : Jvm.Cond).before a0 Z = true := hw _ (List.mem_of_getElem? (i := 166) rfl)
theorem wd167 {a0 : Array Value} {Z : State} (hw : ∀ d ∈ tables_1, d.before a0 Z = true) : ((Jvm.Cond.methodLink "java/util/Arrays" (304 : Nat) ({ cls := "java/lang/Math", name := "min", desc := "(II)I" } : Jvm.MethodName)) : Jvm.Cond).before a0 Z = true := hw _ (List.mem_of_getElem? (i := 167) rfl)
theorem wd168 {a0 : Array Value} {Z : State} (hw : ∀ d ∈ tables_1, d.before a0 Z = true) : ((Jvm.Cond.static ({ cls := "java/lang/Math", name := "min", desc := "(II)I" } : Jvm.MethodName)) : Jvm.Cond).before a0 Z = true := hw _ (List.mem_of_getElem? (i := 168) rfl)
theorem wd169 {a0 : Array Value} {Z : State} (hw : ∀ d ∈ tables_1, d.before a0 Z = true) : ((Jvm.Cond.code ({ cls := "java/lang/Math", name := "min", desc := "(II)I" } : Jvm.MethodName) jdk_29_method_69_code (2 : Nat) (Option.some Jvm.ClassFile.FieldType.int)) : Jvm.Cond).before a0 Z = true := hw _ (List.mem_of_getElem? (i := 169) rfl)
theorem wd170 {a0 : Array Value} {Z : State} (hw : ∀ d ∈ tables_1, d.before a0 Z = true) : ((Jvm.Cond.methodLink "java/util/Arrays" (150 : Nat) ({ cls := "java/lang/System", name := "arraycopy", desc := "(Ljava/lang/Object;ILjava/lang/Object;II)V" } : Jvm.MethodName)) : Jvm.Cond).before a0 Z = true := hw _ (List.mem_of_getElem? (i := 170) rfl)
theorem wd171 {a0 : Array Value} {Z : State} (hw : ∀ d ∈ tables_1, d.before a0 Z = true) : ((Jvm.Cond.static ({ cls := "java/lang/System", name := "arraycopy", desc := "(Ljava/lang/Object;ILjava/lang/Object;II)V" } : Jvm.MethodName)) : Jvm.Cond).before a0 Z = true := hw _ (List.mem_of_getElem? (i := 171) rfl)
theorem wd172 {a0 : Array Value} {Z : State} (hw : ∀ d ∈ tables_1, d.before a0 Z = true) : ((Jvm.Cond.initialized "java/lang/System") : Jvm.Cond).before a0 Z = true := hw _ (List.mem_of_getElem? (i := 172) rfl)
theorem wd173 {a0 : Array Value} {Z : State} (hw : ∀ d ∈ tables_1, d.before a0 Z = true) : ((Jvm.Cond.native ({ cls := "java/lang/System", name := "arraycopy", desc := "(Ljava/lang/Object;ILjava/lang/Object;II)V" } : Jvm.MethodName)) : Jvm.Cond).before a0 Z = true := hw _ (List.mem_of_getElem? (i := 173) rfl)
abbrev ksRP : List Key := [("com/example/dissect/dissect/RecentPlaces", "newest", "I"), ("com/example/dissect/dissect/RecentPlaces", "older", "[I"), ("com/example/dissect/dissect/RecentPlaces", "newer", "[I"), ("com/example/dissect/dissect/RecentPlaces", "putAt", "[I")]
theorem ksRP_laidk {a0 : Array Value} {Z : State} (hw : ∀ d ∈ tables_1, d.before a0 Z = true) : ∀ (i : Nat) (k : Key), ksRP[i]? = some k → Laid Z a0 "com/example/dissect/dissect/RecentPlaces" k.1 k.2.1 k.2.2
  | 0, _, rfl => (Or.inl (wd11 hw))
  | 1, _, rfl => (Or.inr (wd14 hw))
  | 2, _, rfl => (Or.inr (wd16 hw))
  | 3, _, rfl => (Or.inr (wd18 hw))
  | i + 4, k, h => by simp at h
theorem ksRP_laid {a0 : Array Value} {Z : State} (hw : ∀ d ∈ tables_1, d.before a0 Z = true) : ∀ (i : Nat) (k : Key) (v : Value), ksRP[i]? = some k → ([(.int (0 : Int32)), .null, .null, .null] : List Value)[i]? = some v → Laid Z a0 "com/example/dissect/dissect/RecentPlaces" k.1 k.2.1 k.2.2 ∧ ∃ ty, parseFieldDescriptor k.2.2 = some ty ∧ v = defaultValue ty
  | 0, _, _, rfl, rfl => ⟨ksRP_laidk hw 0 _ rfl, .int, by decide, rfl⟩
  | 1, _, _, rfl, rfl => ⟨ksRP_laidk hw 1 _ rfl, (.array .int), by decide, rfl⟩
  | 2, _, _, rfl, rfl => ⟨ksRP_laidk hw 2 _ rfl, (.array .int), by decide, rfl⟩
  | 3, _, _, rfl, rfl => ⟨ksRP_laidk hw 3 _ rfl, (.array .int), by decide, rfl⟩
  | i + 4, k, v, h, _ => by simp at h
theorem ksRP_dist {a0 : Array Value} {Z : State} (hw : ∀ d ∈ tables_1, d.before a0 Z = true) (i j : Nat) (k k' : Key) (h1 : ksRP[i]? = some k) (h2 : ksRP[j]? = some k') (hne : i ≠ j) : kslot Z k ≠ kslot Z k' :=
  distK (C := "com/example/dissect/dissect/RecentPlaces") (ksRP_laidk hw) (by decide) (by decide) i j k k' h1 h2 hne
abbrev ksAL : List Key := [("java/util/AbstractList", "modCount", "I"), ("java/util/ArrayList", "elementData", "[Ljava/lang/Object;"), ("java/util/ArrayList", "size", "I")]
theorem ksAL_laidk {a0 : Array Value} {Z : State} (hw : ∀ d ∈ tables_1, d.before a0 Z = true) : ∀ (i : Nat) (k : Key), ksAL[i]? = some k → Laid Z a0 "java/util/ArrayList" k.1 k.2.1 k.2.2
  | 0, _, rfl => (Or.inl (wd53 hw))
  | 1, _, rfl => (Or.inl (wd57 hw))
  | 2, _, rfl => (Or.inl (wd77 hw))
  | i + 3, k, h => by simp at h
theorem ksAL_laid {a0 : Array Value} {Z : State} (hw : ∀ d ∈ tables_1, d.before a0 Z = true) : ∀ (i : Nat) (k : Key) (v : Value), ksAL[i]? = some k → ([(.int (0 : Int32)), .null, (.int (0 : Int32))] : List Value)[i]? = some v → Laid Z a0 "java/util/ArrayList" k.1 k.2.1 k.2.2 ∧ ∃ ty, parseFieldDescriptor k.2.2 = some ty ∧ v = defaultValue ty
  | 0, _, _, rfl, rfl => ⟨ksAL_laidk hw 0 _ rfl, .int, by decide, rfl⟩
  | 1, _, _, rfl, rfl => ⟨ksAL_laidk hw 1 _ rfl, (.array (.object "java/lang/Object")), by decide, rfl⟩
  | 2, _, _, rfl, rfl => ⟨ksAL_laidk hw 2 _ rfl, .int, by decide, rfl⟩
  | i + 3, k, v, h, _ => by simp at h
theorem ksAL_dist {a0 : Array Value} {Z : State} (hw : ∀ d ∈ tables_1, d.before a0 Z = true) (i j : Nat) (k k' : Key) (h1 : ksAL[i]? = some k) (h2 : ksAL[j]? = some k') (hne : i ≠ j) : kslot Z k ≠ kslot Z k' :=
  distK (C := "java/util/ArrayList") (ksAL_laidk hw) (by decide) (by decide) i j k k' h1 h2 hne
set_option maxRecDepth 65536 in
set_option maxHeartbeats 40000000 in
theorem m_valOld (l : Launch) (Z : State) (a0 : Array Value) (hw : ∀ d ∈ tables_1, d.before a0 Z = true) (hB : Heap) (H : List Rec) (k : Int32) (b : Addr) (cA : Addr) (cc : Cell) (sH : Sta Z hB "java/lang/Integer$IntegerCache" "high" "I" (.int 127)) (sC : Sta Z hB "java/lang/Integer$IntegerCache" "cache" "[Ljava/lang/Integer;" (.ref cA)) (bx : Bxs Z cA cc "java/lang/Integer" "I" 256 (fun j => .int (j - 128))) (hBZ : hB = Z.heap) (h1 : ¬ k < -128) (h2 : ¬ 127 < k) (h0 : ¬ (k + 128 < 0 ∨ cc.slots.size ≤ (k + 128).toNatClampNeg)) (hv : cc.slots[(k + 128).toNatClampNeg]? = some (.ref b)) : Ctr l Z hB ({ cls := "java/lang/Integer", name := "valueOf", desc := "(I)Ljava/lang/Integer;" } : Jvm.MethodName) jdk_33_method_22_code 1 (some (.object "java/lang/Integer")) [] ({ frames := 0, cells := 0, slots := 0, locals := 0 } : Room) #[(.int k)] H (fun v H' => v = some (.ref b) ∧ H' = H) := by
  refine Wk.ctr pn_0 (Ls := #[.val (.int k)]) (fun m => by first | rfl | (simp [entryFrame, mkF, argsToLocals, Value.category]; done)) ?_
  refine Wk.iloadN (pc' := 1) d8_0 rfl rfl ?_
  refine Wk.bipush (pc' := 3) (-128 : Int32) d8_1 (by decide) rfl ?_
  refine Wk.icN (pc' := 6) d8_3 (XT.ii_lt_f h1) rfl ?_
  refine Wk.iloadN (pc' := 7) d8_6 rfl rfl ?_
  refine Wk.getSt (pc' := 10) d8_7 (wd62 hw) sH rfl ?_
  refine Wk.icN (pc' := 13) d8_10 (XT.ii_gt_f h2) rfl ?_
  refine Wk.getSt (pc' := 16) d8_13 (wd64 hw) sC rfl ?_
  refine Wk.iloadN (pc' := 17) d8_16 rfl rfl ?_
  refine Wk.sipush (pc' := 20) (128 : Int32) d8_17 (by decide) rfl ?_
  refine Wk.iadd (pc' := 21) d8_20 rfl ?_
  refine Wk.aaloadOld (pc' := 22) d8_21 (hBZ ▸ bx.1) rfl h0 hv rfl ?_
  exact Wk.aret (t := (.object "java/lang/Integer")) d8_22 rfl rfl rfl (by simp <;> omega) (Nat.le_of_ble_eq_true rfl) ⟨rfl, rfl⟩
theorem boxAt {Z : State} {cA : Addr} {cc : Cell} (bx : Bxs Z cA cc "java/lang/Integer" "I" 256 (fun j => .int (j - 128))) (k : Int32) (h1 : ¬ k < -128) (h2 : ¬ 127 < k) : ¬ (k + 128 < 0 ∨ cc.slots.size ≤ (k + 128).toNatClampNeg) ∧ ∃ b, cc.slots[(k + 128).toNatClampNeg]? = some (.ref b) ∧ Exa Z Z.heap b "java/lang/Integer" ∧ Fld Z Z.heap b "java/lang/Integer" "value" "I" (.int k) := by
  obtain ⟨-, hs, hz, hb⟩ := bx
  have e0 : (0 : Int32).toInt = 0 := rfl
  have e1 : (-128 : Int32).toInt = -128 := rfl
  have e2 : (127 : Int32).toInt = 127 := rfl
  have e3 : (128 : Int32).toInt = 128 := rfl
  have e4 := c_iadd k 128
  have r1 := rng32 (k + 128)
  rw [Int32.lt_iff_toInt_lt] at h1 h2
  have e5 : (256 : Int32).toNatClampNeg = 256 := rfl
  have q : ¬ (k + 128 < 0 ∨ cc.slots.size ≤ (k + 128).toNatClampNeg) := by
    rw [hs, e5, Int32.lt_iff_toInt_lt]; simp only [Int32.toNatClampNeg]; omega
  obtain ⟨b, b1, b2, b3⟩ := hb _ q
  have e6 : k + 128 - 128 = k := by rw [Int32.add_sub_cancel]
  have b4 : Fld Z Z.heap b "java/lang/Integer" "value" "I" (.int (k + 128 - 128)) := b3
  rw [e6] at b4
  exact ⟨q, b, b1, b2, b4⟩
set_option maxRecDepth 65536 in
set_option maxHeartbeats 40000000 in
theorem m_rinit (l : Launch) (Z : State) (a0 : Array Value) (hw : ∀ d ∈ tables_1, d.before a0 Z = true) (hB : Heap)  : Ctr l Z hB ({ cls := "com/example/dissect/dissect/RecentPlaces", name := "<init>", desc := "(I)V" } : Jvm.MethodName) prog_102_method_1_code 2 none [] ({ frames := 1, cells := 3, slots := 12, locals := 12 } : Room) #[(rf hB 0), (.int (4 : Int32))] [obj "com/example/dissect/dissect/RecentPlaces" ksRP [(.int (0 : Int32)), .null, .null, .null]] (fun v H' => v = none ∧ H' = [obj "com/example/dissect/dissect/RecentPlaces" ksRP [(.int (-1 : Int32)), (rf hB 1), (rf hB 2), (rf hB 3)], ints [0, 0, 0, 0], ints [0, 0, 0, 0], ints [0, 0, 0, 0]]) := by
  refine Wk.ctr pn_1 (Ls := #[.val (rf hB 0), .val (.int (4 : Int32))]) (fun m => by first | rfl | (simp [entryFrame, mkF, argsToLocals, Value.category]; done)) ?_
  refine Wk.aloadN (pc' := 1) d0_0 rfl rfl rfl ?_
  refine Wk.initObj (pc' := 4) d0_1 (wd7 hw) (wd8 hw) (wd9 hw) rfl (Nat.le_of_ble_eq_true rfl) (Nat.le_of_ble_eq_true rfl) rfl ?_
  refine Wk.aloadN (pc' := 5) d0_4 rfl rfl rfl ?_
  refine Wk.iconst (pc' := 6) (-1 : Int32) d0_5 (by decide) rfl ?_
  refine Wk.putF0 (pc' := 9) (i := 0) (j := 0) (H' := [obj "com/example/dissect/dissect/RecentPlaces" ksRP [(.int (-1 : Int32)), .null, .null, .null]]) (ty := .int) d0_6 (wd10 hw) rfl rfl (Nat.le_of_ble_eq_true rfl) (Or.inl (wd11 hw)) (wd2 hw) (by decide) rfl rfl rfl rfl ?_
  refine Wk.aloadN (pc' := 10) d0_9 rfl rfl rfl ?_
  refine Wk.iloadN (pc' := 11) d0_10 rfl rfl ?_
  refine Wk.newArr (pc' := 13) (i := 1) (nn := 4) (H' := [obj "com/example/dissect/dissect/RecentPlaces" ksRP [(.int (-1 : Int32)), .null, .null, .null], ints [0, 0, 0, 0]]) d0_11 (wd12 hw) (by decide) (by decide) (by omega) rfl ⟨(by intro C; simp [newarray.typeOf]), (by intro C; simp [newarray.typeOf])⟩ (Nat.le_of_ble_eq_true rfl) (Nat.le_of_ble_eq_true rfl) rfl rfl rfl ?_
  refine Wk.putF0 (pc' := 16) (i := 0) (j := 1) (H' := [obj "com/example/dissect/dissect/RecentPlaces" ksRP [(.int (-1 : Int32)), (rf hB 1), .null, .null], ints [0, 0, 0, 0]]) (ty := (.array .int)) d0_13 (wd13 hw) rfl rfl (Nat.le_of_ble_eq_true rfl) (Or.inr ⟨(wd14 hw), rfl, rfl⟩) (wd2 hw) (by decide) rfl rfl rfl rfl ?_
  refine Wk.aloadN (pc' := 17) d0_16 rfl rfl rfl ?_
  refine Wk.iloadN (pc' := 18) d0_17 rfl rfl ?_
  refine Wk.newArr (pc' := 20) (i := 2) (nn := 4) (H' := [obj "com/example/dissect/dissect/RecentPlaces" ksRP [(.int (-1 : Int32)), (rf hB 1), .null, .null], ints [0, 0, 0, 0], ints [0, 0, 0, 0]]) d0_18 (wd12 hw) (by decide) (by decide) (by omega) rfl ⟨(by intro C; simp [newarray.typeOf]), (by intro C; simp [newarray.typeOf])⟩ (Nat.le_of_ble_eq_true rfl) (Nat.le_of_ble_eq_true rfl) rfl rfl rfl ?_
  refine Wk.putF0 (pc' := 23) (i := 0) (j := 2) (H' := [obj "com/example/dissect/dissect/RecentPlaces" ksRP [(.int (-1 : Int32)), (rf hB 1), (rf hB 2), .null], ints [0, 0, 0, 0], ints [0, 0, 0, 0]]) (ty := (.array .int)) d0_20 (wd15 hw) rfl rfl (Nat.le_of_ble_eq_true rfl) (Or.inr ⟨(wd16 hw), rfl, rfl⟩) (wd2 hw) (by decide) rfl rfl rfl rfl ?_
  refine Wk.aloadN (pc' := 24) d0_23 rfl rfl rfl ?_
  refine Wk.iloadN (pc' := 25) d0_24 rfl rfl ?_
  refine Wk.newArr (pc' := 27) (i := 3) (nn := 4) (H' := [obj "com/example/dissect/dissect/RecentPlaces" ksRP [(.int (-1 : Int32)), (rf hB 1), (rf hB 2), .null], ints [0, 0, 0, 0], ints [0, 0, 0, 0], ints [0, 0, 0, 0]]) d0_25 (wd12 hw) (by decide) (by decide) (by omega) rfl ⟨(by intro C; simp [newarray.typeOf]), (by intro C; simp [newarray.typeOf])⟩ (Nat.le_of_ble_eq_true rfl) (Nat.le_of_ble_eq_true rfl) rfl rfl rfl ?_
  refine Wk.putF0 (pc' := 30) (i := 0) (j := 3) (H' := [obj "com/example/dissect/dissect/RecentPlaces" ksRP [(.int (-1 : Int32)), (rf hB 1), (rf hB 2), (rf hB 3)], ints [0, 0, 0, 0], ints [0, 0, 0, 0], ints [0, 0, 0, 0]]) (ty := (.array .int)) d0_27 (wd17 hw) rfl rfl (Nat.le_of_ble_eq_true rfl) (Or.inr ⟨(wd18 hw), rfl, rfl⟩) (wd2 hw) (by decide) rfl rfl rfl rfl ?_
  exact Wk.vret d0_30 rfl (Nat.le_of_ble_eq_true rfl) (Nat.le_of_ble_eq_true rfl) ⟨rfl, rfl⟩
def Fm_put (n : Int32) (o : List Int32) (w : List Int32) (t : List Int32) (p : Int32) (m : Int32) : Option (Int32 × List Int32 × List Int32 × List Int32) :=
    if p = n then ((Wk.sI t p m).bind fun l1 =>
    some (n, o, w, l1)) else ((Wk.gI t p).bind fun v2 =>
    if (0 : Int32) < v2 then ((Wk.gI w p).bind fun v3 =>
    (Wk.gI o p).bind fun v4 =>
    (Wk.sI o v3 v4).bind fun l5 =>
    (Wk.gI l5 p).bind fun v6 =>
    if v6 < (0 : Int32) then ((Wk.sI l5 p n).bind fun l7 =>
    (Wk.sI w p (-1 : Int32)).bind fun l8 =>
    if n < (0 : Int32) then ((Wk.sI t p m).bind fun l9 =>
    some (p, l7, l8, l9)) else ((Wk.sI l8 n p).bind fun l10 =>
    (Wk.sI t p m).bind fun l11 =>
    some (p, l7, l10, l11))) else ((Wk.sI w v6 v3).bind fun l12 =>
    (Wk.sI l5 p n).bind fun l13 =>
    (Wk.sI l12 p (-1 : Int32)).bind fun l14 =>
    if n < (0 : Int32) then ((Wk.sI t p m).bind fun l15 =>
    some (p, l13, l14, l15)) else ((Wk.sI l14 n p).bind fun l16 =>
    (Wk.sI t p m).bind fun l17 =>
    some (p, l13, l16, l17)))) else ((Wk.sI o p n).bind fun l18 =>
    (Wk.sI w p (-1 : Int32)).bind fun l19 =>
    if n < (0 : Int32) then ((Wk.sI t p m).bind fun l20 =>
    some (p, l18, l19, l20)) else ((Wk.sI l19 n p).bind fun l21 =>
    (Wk.sI t p m).bind fun l22 =>
    some (p, l18, l21, l22))))
set_option maxRecDepth 65536 in
set_option maxHeartbeats 40000000 in
theorem m_put (l : Launch) (Z : State) (a0 : Array Value) (hw : ∀ d ∈ tables_1, d.before a0 Z = true) (hB : Heap)  (n : Int32) (o : List Int32) (w : List Int32) (t : List Int32) (p : Int32) (m : Int32) (out : Int32 × List Int32 × List Int32 × List Int32) (hM : Fm_put n o w t p m = some out)  : Ctr l Z hB ({ cls := "com/example/dissect/dissect/RecentPlaces", name := "put", desc := "(II)V" } : Jvm.MethodName) prog_102_method_2_code 3 none [] ({ frames := 0, cells := 0, slots := 0, locals := 0 } : Room) #[(rf hB 0), (.int p), (.int m)] [obj "com/example/dissect/dissect/RecentPlaces" ksRP [(.int n), (rf hB 1), (rf hB 2), (rf hB 3)], ints o, ints w, ints t] (fun v H' => v = none ∧ H' = [obj "com/example/dissect/dissect/RecentPlaces" ksRP [(.int out.1), (rf hB 1), (rf hB 2), (rf hB 3)], ints out.2.1, ints out.2.2.1, ints out.2.2.2]) := by
  refine Wk.ctr pn_2 (Ls := #[.val (rf hB 0), .val (.int p), .val (.int m)]) (fun m => by first | rfl | (simp [entryFrame, mkF, argsToLocals, Value.category]; done)) ?_
  simp only [Fm_put] at hM
  refine Wk.iloadN (pc' := 1) d2_0 rfl rfl ?_
  refine Wk.aloadN (pc' := 2) d2_1 rfl rfl rfl ?_
  refine Wk.getF0 (pc' := 5) (i := 0) (j := 0) d2_2 (wd10 hw) rfl rfl rfl rfl ?_
  by_cases hc1 : p = n
  ·
    rw [if_pos hc1] at hM
    refine Wk.icY (pc' := 99) d2_5 (XT.ii_eq_t hc1) (by decide) (by decide) ?_
    refine Wk.aloadN (pc' := 100) d2_99 rfl rfl rfl ?_
    refine Wk.getF0 (pc' := 103) (i := 0) (j := 3) d2_100 (wd17 hw) rfl rfl rfl rfl ?_
    refine Wk.iloadN (pc' := 104) d2_103 rfl rfl ?_
    refine Wk.iloadN (pc' := 105) d2_104 rfl rfl ?_
    obtain ⟨l1, el1, hM⟩ := Option.bind_eq_some_iff.mp hM
    refine Wk.iastoreG (pc' := 106) (i := 3) (H' := [obj "com/example/dissect/dissect/RecentPlaces" ksRP [(.int n), (rf hB 1), (rf hB 2), (rf hB 3)], ints o, ints w, ints l1]) d2_105 rfl el1 rfl rfl ?_
    obtain rfl := Option.some.inj hM
    exact Wk.vret d2_106 rfl (Nat.le_of_ble_eq_true rfl) (Nat.le_of_ble_eq_true rfl) ⟨rfl, rfl⟩
  ·
    rw [if_neg hc1] at hM
    refine Wk.icN (pc' := 8) d2_5 (XT.ii_eq_f hc1) rfl ?_
    refine Wk.aloadN (pc' := 9) d2_8 rfl rfl rfl ?_
    refine Wk.getF0 (pc' := 12) (i := 0) (j := 3) d2_9 (wd17 hw) rfl rfl rfl rfl ?_
    refine Wk.iloadN (pc' := 13) d2_12 rfl rfl ?_
    obtain ⟨v2, ev2, hM⟩ := Option.bind_eq_some_iff.mp hM
    refine Wk.ialoadG (pc' := 14) (i := 3) d2_13 rfl ev2 rfl ?_
    by_cases hc2 : (0 : Int32) < v2
    ·
      rw [if_pos hc2] at hM
      refine Wk.ifN (pc' := 17) d2_14 (XT.i0_le_f hc2) rfl ?_
      refine Wk.aloadN (pc' := 18) d2_17 rfl rfl rfl ?_
      refine Wk.getF0 (pc' := 21) (i := 0) (j := 1) d2_18 (wd13 hw) rfl rfl rfl rfl ?_
      refine Wk.aloadN (pc' := 22) d2_21 rfl rfl rfl ?_
      refine Wk.getF0 (pc' := 25) (i := 0) (j := 2) d2_22 (wd15 hw) rfl rfl rfl rfl ?_
      refine Wk.iloadN (pc' := 26) d2_25 rfl rfl ?_
      obtain ⟨v3, ev3, hM⟩ := Option.bind_eq_some_iff.mp hM
      refine Wk.ialoadG (pc' := 27) (i := 2) d2_26 rfl ev3 rfl ?_
      refine Wk.aloadN (pc' := 28) d2_27 rfl rfl rfl ?_
      refine Wk.getF0 (pc' := 31) (i := 0) (j := 1) d2_28 (wd13 hw) rfl rfl rfl rfl ?_
      refine Wk.iloadN (pc' := 32) d2_31 rfl rfl ?_
      obtain ⟨v4, ev4, hM⟩ := Option.bind_eq_some_iff.mp hM
      refine Wk.ialoadG (pc' := 33) (i := 1) d2_32 rfl ev4 rfl ?_
      obtain ⟨l5, el5, hM⟩ := Option.bind_eq_some_iff.mp hM
      refine Wk.iastoreG (pc' := 34) (i := 1) (H' := [obj "com/example/dissect/dissect/RecentPlaces" ksRP [(.int n), (rf hB 1), (rf hB 2), (rf hB 3)], ints l5, ints w, ints t]) d2_33 rfl el5 rfl rfl ?_
      refine Wk.aloadN (pc' := 35) d2_34 rfl rfl rfl ?_
      refine Wk.getF0 (pc' := 38) (i := 0) (j := 1) d2_35 (wd13 hw) rfl rfl rfl rfl ?_
      refine Wk.iloadN (pc' := 39) d2_38 rfl rfl ?_
      obtain ⟨v6, ev6, hM⟩ := Option.bind_eq_some_iff.mp hM
      refine Wk.ialoadG (pc' := 40) (i := 1) d2_39 rfl ev6 rfl ?_
      by_cases hc3 : v6 < (0 : Int32)
      ·
        rw [if_pos hc3] at hM
        refine Wk.ifY (pc' := 60) d2_40 (XT.i0_lt_t hc3) (by decide) (by decide) ?_
        refine Wk.aloadN (pc' := 61) d2_60 rfl rfl rfl ?_
        refine Wk.getF0 (pc' := 64) (i := 0) (j := 1) d2_61 (wd13 hw) rfl rfl rfl rfl ?_
        refine Wk.iloadN (pc' := 65) d2_64 rfl rfl ?_
        refine Wk.aloadN (pc' := 66) d2_65 rfl rfl rfl ?_
        refine Wk.getF0 (pc' := 69) (i := 0) (j := 0) d2_66 (wd10 hw) rfl rfl rfl rfl ?_
        obtain ⟨l7, el7, hM⟩ := Option.bind_eq_some_iff.mp hM
        refine Wk.iastoreG (pc' := 70) (i := 1) (H' := [obj "com/example/dissect/dissect/RecentPlaces" ksRP [(.int n), (rf hB 1), (rf hB 2), (rf hB 3)], ints l7, ints w, ints t]) d2_69 rfl el7 rfl rfl ?_
        refine Wk.aloadN (pc' := 71) d2_70 rfl rfl rfl ?_
        refine Wk.getF0 (pc' := 74) (i := 0) (j := 2) d2_71 (wd15 hw) rfl rfl rfl rfl ?_
        refine Wk.iloadN (pc' := 75) d2_74 rfl rfl ?_
        refine Wk.iconst (pc' := 76) (-1 : Int32) d2_75 (by decide) rfl ?_
        obtain ⟨l8, el8, hM⟩ := Option.bind_eq_some_iff.mp hM
        refine Wk.iastoreG (pc' := 77) (i := 2) (H' := [obj "com/example/dissect/dissect/RecentPlaces" ksRP [(.int n), (rf hB 1), (rf hB 2), (rf hB 3)], ints l7, ints l8, ints t]) d2_76 rfl el8 rfl rfl ?_
        refine Wk.aloadN (pc' := 78) d2_77 rfl rfl rfl ?_
        refine Wk.getF0 (pc' := 81) (i := 0) (j := 0) d2_78 (wd10 hw) rfl rfl rfl rfl ?_
        by_cases hc4 : n < (0 : Int32)
        ·
          rw [if_pos hc4] at hM
          refine Wk.ifY (pc' := 94) d2_81 (XT.i0_lt_t hc4) (by decide) (by decide) ?_
          refine Wk.aloadN (pc' := 95) d2_94 rfl rfl rfl ?_
          refine Wk.iloadN (pc' := 96) d2_95 rfl rfl ?_
          refine Wk.putF0 (pc' := 99) (i := 0) (j := 0) (H' := [obj "com/example/dissect/dissect/RecentPlaces" ksRP [(.int p), (rf hB 1), (rf hB 2), (rf hB 3)], ints l7, ints l8, ints t]) (ty := .int) d2_96 (wd10 hw) rfl rfl (Nat.le_of_ble_eq_true rfl) (Or.inl (wd11 hw)) (wd2 hw) (by decide) rfl rfl rfl rfl ?_
          refine Wk.aloadN (pc' := 100) d2_99 rfl rfl rfl ?_
          refine Wk.getF0 (pc' := 103) (i := 0) (j := 3) d2_100 (wd17 hw) rfl rfl rfl rfl ?_
          refine Wk.iloadN (pc' := 104) d2_103 rfl rfl ?_
          refine Wk.iloadN (pc' := 105) d2_104 rfl rfl ?_
          obtain ⟨l9, el9, hM⟩ := Option.bind_eq_some_iff.mp hM
          refine Wk.iastoreG (pc' := 106) (i := 3) (H' := [obj "com/example/dissect/dissect/RecentPlaces" ksRP [(.int p), (rf hB 1), (rf hB 2), (rf hB 3)], ints l7, ints l8, ints l9]) d2_105 rfl el9 rfl rfl ?_
          obtain rfl := Option.some.inj hM
          exact Wk.vret d2_106 rfl (Nat.le_of_ble_eq_true rfl) (Nat.le_of_ble_eq_true rfl) ⟨rfl, rfl⟩
        ·
          rw [if_neg hc4] at hM
          refine Wk.ifN (pc' := 84) d2_81 (XT.i0_lt_f hc4) rfl ?_
          refine Wk.aloadN (pc' := 85) d2_84 rfl rfl rfl ?_
          refine Wk.getF0 (pc' := 88) (i := 0) (j := 2) d2_85 (wd15 hw) rfl rfl rfl rfl ?_
          refine Wk.aloadN (pc' := 89) d2_88 rfl rfl rfl ?_
          refine Wk.getF0 (pc' := 92) (i := 0) (j := 0) d2_89 (wd10 hw) rfl rfl rfl rfl ?_
          refine Wk.iloadN (pc' := 93) d2_92 rfl rfl ?_
          obtain ⟨l10, el10, hM⟩ := Option.bind_eq_some_iff.mp hM
          refine Wk.iastoreG (pc' := 94) (i := 2) (H' := [obj "com/example/dissect/dissect/RecentPlaces" ksRP [(.int n), (rf hB 1), (rf hB 2), (rf hB 3)], ints l7, ints l10, ints t]) d2_93 rfl el10 rfl rfl ?_
          refine Wk.aloadN (pc' := 95) d2_94 rfl rfl rfl ?_
          refine Wk.iloadN (pc' := 96) d2_95 rfl rfl ?_
          refine Wk.putF0 (pc' := 99) (i := 0) (j := 0) (H' := [obj "com/example/dissect/dissect/RecentPlaces" ksRP [(.int p), (rf hB 1), (rf hB 2), (rf hB 3)], ints l7, ints l10, ints t]) (ty := .int) d2_96 (wd10 hw) rfl rfl (Nat.le_of_ble_eq_true rfl) (Or.inl (wd11 hw)) (wd2 hw) (by decide) rfl rfl rfl rfl ?_
          refine Wk.aloadN (pc' := 100) d2_99 rfl rfl rfl ?_
          refine Wk.getF0 (pc' := 103) (i := 0) (j := 3) d2_100 (wd17 hw) rfl rfl rfl rfl ?_
          refine Wk.iloadN (pc' := 104) d2_103 rfl rfl ?_
          refine Wk.iloadN (pc' := 105) d2_104 rfl rfl ?_
          obtain ⟨l11, el11, hM⟩ := Option.bind_eq_some_iff.mp hM
          refine Wk.iastoreG (pc' := 106) (i := 3) (H' := [obj "com/example/dissect/dissect/RecentPlaces" ksRP [(.int p), (rf hB 1), (rf hB 2), (rf hB 3)], ints l7, ints l10, ints l11]) d2_105 rfl el11 rfl rfl ?_
          obtain rfl := Option.some.inj hM
          exact Wk.vret d2_106 rfl (Nat.le_of_ble_eq_true rfl) (Nat.le_of_ble_eq_true rfl) ⟨rfl, rfl⟩
      ·
        rw [if_neg hc3] at hM
        refine Wk.ifN (pc' := 43) d2_40 (XT.i0_lt_f hc3) rfl ?_
        refine Wk.aloadN (pc' := 44) d2_43 rfl rfl rfl ?_
        refine Wk.getF0 (pc' := 47) (i := 0) (j := 2) d2_44 (wd15 hw) rfl rfl rfl rfl ?_
        refine Wk.aloadN (pc' := 48) d2_47 rfl rfl rfl ?_
        refine Wk.getF0 (pc' := 51) (i := 0) (j := 1) d2_48 (wd13 hw) rfl rfl rfl rfl ?_
        refine Wk.iloadN (pc' := 52) d2_51 rfl rfl ?_
        refine Wk.ialoadG (pc' := 53) (i := 1) d2_52 rfl ev6 rfl ?_
        refine Wk.aloadN (pc' := 54) d2_53 rfl rfl rfl ?_
        refine Wk.getF0 (pc' := 57) (i := 0) (j := 2) d2_54 (wd15 hw) rfl rfl rfl rfl ?_
        refine Wk.iloadN (pc' := 58) d2_57 rfl rfl ?_
        refine Wk.ialoadG (pc' := 59) (i := 2) d2_58 rfl ev3 rfl ?_
        obtain ⟨l12, el12, hM⟩ := Option.bind_eq_some_iff.mp hM
        refine Wk.iastoreG (pc' := 60) (i := 2) (H' := [obj "com/example/dissect/dissect/RecentPlaces" ksRP [(.int n), (rf hB 1), (rf hB 2), (rf hB 3)], ints l5, ints l12, ints t]) d2_59 rfl el12 rfl rfl ?_
        refine Wk.aloadN (pc' := 61) d2_60 rfl rfl rfl ?_
        refine Wk.getF0 (pc' := 64) (i := 0) (j := 1) d2_61 (wd13 hw) rfl rfl rfl rfl ?_
        refine Wk.iloadN (pc' := 65) d2_64 rfl rfl ?_
        refine Wk.aloadN (pc' := 66) d2_65 rfl rfl rfl ?_
        refine Wk.getF0 (pc' := 69) (i := 0) (j := 0) d2_66 (wd10 hw) rfl rfl rfl rfl ?_
        obtain ⟨l13, el13, hM⟩ := Option.bind_eq_some_iff.mp hM
        refine Wk.iastoreG (pc' := 70) (i := 1) (H' := [obj "com/example/dissect/dissect/RecentPlaces" ksRP [(.int n), (rf hB 1), (rf hB 2), (rf hB 3)], ints l13, ints l12, ints t]) d2_69 rfl el13 rfl rfl ?_
        refine Wk.aloadN (pc' := 71) d2_70 rfl rfl rfl ?_
        refine Wk.getF0 (pc' := 74) (i := 0) (j := 2) d2_71 (wd15 hw) rfl rfl rfl rfl ?_
        refine Wk.iloadN (pc' := 75) d2_74 rfl rfl ?_
        refine Wk.iconst (pc' := 76) (-1 : Int32) d2_75 (by decide) rfl ?_
        obtain ⟨l14, el14, hM⟩ := Option.bind_eq_some_iff.mp hM
        refine Wk.iastoreG (pc' := 77) (i := 2) (H' := [obj "com/example/dissect/dissect/RecentPlaces" ksRP [(.int n), (rf hB 1), (rf hB 2), (rf hB 3)], ints l13, ints l14, ints t]) d2_76 rfl el14 rfl rfl ?_
        refine Wk.aloadN (pc' := 78) d2_77 rfl rfl rfl ?_
        refine Wk.getF0 (pc' := 81) (i := 0) (j := 0) d2_78 (wd10 hw) rfl rfl rfl rfl ?_
        by_cases hc5 : n < (0 : Int32)
        ·
          rw [if_pos hc5] at hM
          refine Wk.ifY (pc' := 94) d2_81 (XT.i0_lt_t hc5) (by decide) (by decide) ?_
          refine Wk.aloadN (pc' := 95) d2_94 rfl rfl rfl ?_
          refine Wk.iloadN (pc' := 96) d2_95 rfl rfl ?_
          refine Wk.putF0 (pc' := 99) (i := 0) (j := 0) (H' := [obj "com/example/dissect/dissect/RecentPlaces" ksRP [(.int p), (rf hB 1), (rf hB 2), (rf hB 3)], ints l13, ints l14, ints t]) (ty := .int) d2_96 (wd10 hw) rfl rfl (Nat.le_of_ble_eq_true rfl) (Or.inl (wd11 hw)) (wd2 hw) (by decide) rfl rfl rfl rfl ?_
          refine Wk.aloadN (pc' := 100) d2_99 rfl rfl rfl ?_
          refine Wk.getF0 (pc' := 103) (i := 0) (j := 3) d2_100 (wd17 hw) rfl rfl rfl rfl ?_
          refine Wk.iloadN (pc' := 104) d2_103 rfl rfl ?_
          refine Wk.iloadN (pc' := 105) d2_104 rfl rfl ?_
          obtain ⟨l15, el15, hM⟩ := Option.bind_eq_some_iff.mp hM
          refine Wk.iastoreG (pc' := 106) (i := 3) (H' := [obj "com/example/dissect/dissect/RecentPlaces" ksRP [(.int p), (rf hB 1), (rf hB 2), (rf hB 3)], ints l13, ints l14, ints l15]) d2_105 rfl el15 rfl rfl ?_
          obtain rfl := Option.some.inj hM
          exact Wk.vret d2_106 rfl (Nat.le_of_ble_eq_true rfl) (Nat.le_of_ble_eq_true rfl) ⟨rfl, rfl⟩
        ·
          rw [if_neg hc5] at hM
          refine Wk.ifN (pc' := 84) d2_81 (XT.i0_lt_f hc5) rfl ?_
          refine Wk.aloadN (pc' := 85) d2_84 rfl rfl rfl ?_
          refine Wk.getF0 (pc' := 88) (i := 0) (j := 2) d2_85 (wd15 hw) rfl rfl rfl rfl ?_
          refine Wk.aloadN (pc' := 89) d2_88 rfl rfl rfl ?_
          refine Wk.getF0 (pc' := 92) (i := 0) (j := 0) d2_89 (wd10 hw) rfl rfl rfl rfl ?_
          refine Wk.iloadN (pc' := 93) d2_92 rfl rfl ?_
          obtain ⟨l16, el16, hM⟩ := Option.bind_eq_some_iff.mp hM
          refine Wk.iastoreG (pc' := 94) (i := 2) (H' := [obj "com/example/dissect/dissect/RecentPlaces" ksRP [(.int n), (rf hB 1), (rf hB 2), (rf hB 3)], ints l13, ints l16, ints t]) d2_93 rfl el16 rfl rfl ?_
          refine Wk.aloadN (pc' := 95) d2_94 rfl rfl rfl ?_
          refine Wk.iloadN (pc' := 96) d2_95 rfl rfl ?_
          refine Wk.putF0 (pc' := 99) (i := 0) (j := 0) (H' := [obj "com/example/dissect/dissect/RecentPlaces" ksRP [(.int p), (rf hB 1), (rf hB 2), (rf hB 3)], ints l13, ints l16, ints t]) (ty := .int) d2_96 (wd10 hw) rfl rfl (Nat.le_of_ble_eq_true rfl) (Or.inl (wd11 hw)) (wd2 hw) (by decide) rfl rfl rfl rfl ?_
          refine Wk.aloadN (pc' := 100) d2_99 rfl rfl rfl ?_
          refine Wk.getF0 (pc' := 103) (i := 0) (j := 3) d2_100 (wd17 hw) rfl rfl rfl rfl ?_
          refine Wk.iloadN (pc' := 104) d2_103 rfl rfl ?_
          refine Wk.iloadN (pc' := 105) d2_104 rfl rfl ?_
          obtain ⟨l17, el17, hM⟩ := Option.bind_eq_some_iff.mp hM
          refine Wk.iastoreG (pc' := 106) (i := 3) (H' := [obj "com/example/dissect/dissect/RecentPlaces" ksRP [(.int p), (rf hB 1), (rf hB 2), (rf hB 3)], ints l13, ints l16, ints l17]) d2_105 rfl el17 rfl rfl ?_
          obtain rfl := Option.some.inj hM
          exact Wk.vret d2_106 rfl (Nat.le_of_ble_eq_true rfl) (Nat.le_of_ble_eq_true rfl) ⟨rfl, rfl⟩
    ·
      rw [if_neg hc2] at hM
      refine Wk.ifY (pc' := 60) d2_14 (XT.i0_le_t hc2) (by decide) (by decide) ?_
      refine Wk.aloadN (pc' := 61) d2_60 rfl rfl rfl ?_
      refine Wk.getF0 (pc' := 64) (i := 0) (j := 1) d2_61 (wd13 hw) rfl rfl rfl rfl ?_
      refine Wk.iloadN (pc' := 65) d2_64 rfl rfl ?_
      refine Wk.aloadN (pc' := 66) d2_65 rfl rfl rfl ?_
      refine Wk.getF0 (pc' := 69) (i := 0) (j := 0) d2_66 (wd10 hw) rfl rfl rfl rfl ?_
      obtain ⟨l18, el18, hM⟩ := Option.bind_eq_some_iff.mp hM
      refine Wk.iastoreG (pc' := 70) (i := 1) (H' := [obj "com/example/dissect/dissect/RecentPlaces" ksRP [(.int n), (rf hB 1), (rf hB 2), (rf hB 3)], ints l18, ints w, ints t]) d2_69 rfl el18 rfl rfl ?_
      refine Wk.aloadN (pc' := 71) d2_70 rfl rfl rfl ?_
      refine Wk.getF0 (pc' := 74) (i := 0) (j := 2) d2_71 (wd15 hw) rfl rfl rfl rfl ?_
      refine Wk.iloadN (pc' := 75) d2_74 rfl rfl ?_
      refine Wk.iconst (pc' := 76) (-1 : Int32) d2_75 (by decide) rfl ?_
      obtain ⟨l19, el19, hM⟩ := Option.bind_eq_some_iff.mp hM
      refine Wk.iastoreG (pc' := 77) (i := 2) (H' := [obj "com/example/dissect/dissect/RecentPlaces" ksRP [(.int n), (rf hB 1), (rf hB 2), (rf hB 3)], ints l18, ints l19, ints t]) d2_76 rfl el19 rfl rfl ?_
      refine Wk.aloadN (pc' := 78) d2_77 rfl rfl rfl ?_
      refine Wk.getF0 (pc' := 81) (i := 0) (j := 0) d2_78 (wd10 hw) rfl rfl rfl rfl ?_
      by_cases hc6 : n < (0 : Int32)
      ·
        rw [if_pos hc6] at hM
        refine Wk.ifY (pc' := 94) d2_81 (XT.i0_lt_t hc6) (by decide) (by decide) ?_
        refine Wk.aloadN (pc' := 95) d2_94 rfl rfl rfl ?_
        refine Wk.iloadN (pc' := 96) d2_95 rfl rfl ?_
        refine Wk.putF0 (pc' := 99) (i := 0) (j := 0) (H' := [obj "com/example/dissect/dissect/RecentPlaces" ksRP [(.int p), (rf hB 1), (rf hB 2), (rf hB 3)], ints l18, ints l19, ints t]) (ty := .int) d2_96 (wd10 hw) rfl rfl (Nat.le_of_ble_eq_true rfl) (Or.inl (wd11 hw)) (wd2 hw) (by decide) rfl rfl rfl rfl ?_
        refine Wk.aloadN (pc' := 100) d2_99 rfl rfl rfl ?_
        refine Wk.getF0 (pc' := 103) (i := 0) (j := 3) d2_100 (wd17 hw) rfl rfl rfl rfl ?_
        refine Wk.iloadN (pc' := 104) d2_103 rfl rfl ?_
        refine Wk.iloadN (pc' := 105) d2_104 rfl rfl ?_
        obtain ⟨l20, el20, hM⟩ := Option.bind_eq_some_iff.mp hM
        refine Wk.iastoreG (pc' := 106) (i := 3) (H' := [obj "com/example/dissect/dissect/RecentPlaces" ksRP [(.int p), (rf hB 1), (rf hB 2), (rf hB 3)], ints l18, ints l19, ints l20]) d2_105 rfl el20 rfl rfl ?_
        obtain rfl := Option.some.inj hM
        exact Wk.vret d2_106 rfl (Nat.le_of_ble_eq_true rfl) (Nat.le_of_ble_eq_true rfl) ⟨rfl, rfl⟩
      ·
        rw [if_neg hc6] at hM
        refine Wk.ifN (pc' := 84) d2_81 (XT.i0_lt_f hc6) rfl ?_
        refine Wk.aloadN (pc' := 85) d2_84 rfl rfl rfl ?_
        refine Wk.getF0 (pc' := 88) (i := 0) (j := 2) d2_85 (wd15 hw) rfl rfl rfl rfl ?_
        refine Wk.aloadN (pc' := 89) d2_88 rfl rfl rfl ?_
        refine Wk.getF0 (pc' := 92) (i := 0) (j := 0) d2_89 (wd10 hw) rfl rfl rfl rfl ?_
        refine Wk.iloadN (pc' := 93) d2_92 rfl rfl ?_
        obtain ⟨l21, el21, hM⟩ := Option.bind_eq_some_iff.mp hM
        refine Wk.iastoreG (pc' := 94) (i := 2) (H' := [obj "com/example/dissect/dissect/RecentPlaces" ksRP [(.int n), (rf hB 1), (rf hB 2), (rf hB 3)], ints l18, ints l21, ints t]) d2_93 rfl el21 rfl rfl ?_
        refine Wk.aloadN (pc' := 95) d2_94 rfl rfl rfl ?_
        refine Wk.iloadN (pc' := 96) d2_95 rfl rfl ?_
        refine Wk.putF0 (pc' := 99) (i := 0) (j := 0) (H' := [obj "com/example/dissect/dissect/RecentPlaces" ksRP [(.int p), (rf hB 1), (rf hB 2), (rf hB 3)], ints l18, ints l21, ints t]) (ty := .int) d2_96 (wd10 hw) rfl rfl (Nat.le_of_ble_eq_true rfl) (Or.inl (wd11 hw)) (wd2 hw) (by decide) rfl rfl rfl rfl ?_
        refine Wk.aloadN (pc' := 100) d2_99 rfl rfl rfl ?_
        refine Wk.getF0 (pc' := 103) (i := 0) (j := 3) d2_100 (wd17 hw) rfl rfl rfl rfl ?_
        refine Wk.iloadN (pc' := 104) d2_103 rfl rfl ?_
        refine Wk.iloadN (pc' := 105) d2_104 rfl rfl ?_
        obtain ⟨l22, el22, hM⟩ := Option.bind_eq_some_iff.mp hM
        refine Wk.iastoreG (pc' := 106) (i := 3) (H' := [obj "com/example/dissect/dissect/RecentPlaces" ksRP [(.int p), (rf hB 1), (rf hB 2), (rf hB 3)], ints l18, ints l21, ints l22]) d2_105 rfl el22 rfl rfl ?_
        obtain rfl := Option.some.inj hM
        exact Wk.vret d2_106 rfl (Nat.le_of_ble_eq_true rfl) (Nat.le_of_ble_eq_true rfl) ⟨rfl, rfl⟩
set_option maxRecDepth 65536 in
set_option maxHeartbeats 40000000 in
theorem m_putAt (l : Launch) (Z : State) (a0 : Array Value) (hw : ∀ d ∈ tables_1, d.before a0 Z = true) (hB : Heap) (H : List Rec) (n x y : Int32) (o t : List Int32) (h0 : H[0]? = some (obj "com/example/dissect/dissect/RecentPlaces" ksRP [(.int n), (rf hB 1), (rf hB 2), (rf hB 3)])) (h1 : H[1]? = some (ints o)) (h3 : H[3]? = some (ints t)) (hy : Wk.gI t x = some y) : Ctr l Z hB ({ cls := "com/example/dissect/dissect/RecentPlaces", name := "putAt", desc := "(I)I" } : Jvm.MethodName) prog_102_method_4_code 2 (some .int) [] ({ frames := 0, cells := 0, slots := 0, locals := 0 } : Room) #[(rf hB 0), (.int x)] H (fun v H' => v = some (.int y) ∧ H' = H) := by
  refine Wk.ctr pn_3 (Ls := #[.val (rf hB 0), .val (.int x)]) (fun m => by first | rfl | (simp [entryFrame, mkF, argsToLocals, Value.category]; done)) ?_
  refine Wk.aloadN (pc' := 1) d19_0 rfl rfl rfl ?_
  refine Wk.getF0 (pc' := 4) (i := 0) (j := 3) d19_1 (wd17 hw) h0 rfl rfl rfl ?_
  refine Wk.iloadN (pc' := 5) d19_4 rfl rfl ?_
  refine Wk.ialoadG (pc' := 6) (i := 3) d19_5 h3 hy rfl ?_
  exact Wk.iret (t := .int) d19_6 rfl (by simp) rfl (by first | (simp only [List.length_append, List.length_cons, List.length_nil] <;> omega) | (simp <;> omega) | simp) (Nat.le_of_ble_eq_true rfl) ⟨rfl, rfl⟩
def lastM (q p0 p1 p2 p3 : Int32) : Int32 := if p3 = q then 3 else if p2 = q then 2 else if p1 = q then 1 else if p0 = q then 0 else -1
def expM (q p0 p1 p2 p3 m0 m1 m2 m3 : Int32) : Int32 := if p3 = q then m3 else if p2 = q then m2 else if p1 = q then m1 else if p0 = q then m0 else 0
set_option maxRecDepth 65536 in
set_option maxHeartbeats 40000000 in
theorem m_last (l : Launch) (Z : State) (a0 : Array Value) (hw : ∀ d ∈ tables_1, d.before a0 Z = true) (hB : Heap) (H : List Rec) (q p0 p1 p2 p3 : Int32) : Ctr l Z hB ({ cls := "com/example/dissect/dissect/RecentPlacesPutPinLaw", name := "lastOf", desc := "(IIIII)I" } : Jvm.MethodName) method_2_code 5 (some .int) [] ({ frames := 0, cells := 0, slots := 0, locals := 0 } : Room) #[(.int q), (.int p0), (.int p1), (.int p2), (.int p3)] H (fun v H' => v = some (.int (lastM q p0 p1 p2 p3)) ∧ H' = H) := by
  refine Wk.ctr pn_4 (Ls := #[.val (.int q), .val (.int p0), .val (.int p1), .val (.int p2), .val (.int p3)]) (fun m => by first | rfl | (simp [entryFrame, mkF, argsToLocals, Value.category]; done)) ?_
  refine Wk.iload (pc' := 2) d18_0 rfl rfl ?_
  refine Wk.iloadN (pc' := 3) d18_2 rfl rfl ?_
  by_cases hc1 : p3 = q
  ·
    refine Wk.icN (pc' := 6) d18_3 (XT.ii_ne_f hc1) rfl ?_
    refine Wk.iconst (pc' := 7) (3 : Int32) d18_6 (by decide) rfl ?_
    exact Wk.iret (t := .int) d18_7 rfl (by simp) rfl (by simp <;> omega) (Nat.le_of_ble_eq_true rfl) ⟨congrArg (fun z => some (Value.int z)) (show (3 : Int32) = lastM q p0 p1 p2 p3 from by rw [lastM, if_pos hc1]), rfl⟩
  ·
    refine Wk.icY (pc' := 8) d18_3 (XT.ii_ne_t hc1) (by decide) (by decide) ?_
    refine Wk.iloadN (pc' := 9) d18_8 rfl rfl ?_
    refine Wk.iloadN (pc' := 10) d18_9 rfl rfl ?_
    by_cases hc2 : p2 = q
    ·
      refine Wk.icN (pc' := 13) d18_10 (XT.ii_ne_f hc2) rfl ?_
      refine Wk.iconst (pc' := 14) (2 : Int32) d18_13 (by decide) rfl ?_
      exact Wk.iret (t := .int) d18_14 rfl (by simp) rfl (by simp <;> omega) (Nat.le_of_ble_eq_true rfl) ⟨congrArg (fun z => some (Value.int z)) (show (2 : Int32) = lastM q p0 p1 p2 p3 from by rw [lastM, if_neg hc1, if_pos hc2]), rfl⟩
    ·
      refine Wk.icY (pc' := 15) d18_10 (XT.ii_ne_t hc2) (by decide) (by decide) ?_
      refine Wk.iloadN (pc' := 16) d18_15 rfl rfl ?_
      refine Wk.iloadN (pc' := 17) d18_16 rfl rfl ?_
      by_cases hc3 : p1 = q
      ·
        refine Wk.icN (pc' := 20) d18_17 (XT.ii_ne_f hc3) rfl ?_
        refine Wk.iconst (pc' := 21) (1 : Int32) d18_20 (by decide) rfl ?_
        exact Wk.iret (t := .int) d18_21 rfl (by simp) rfl (by simp <;> omega) (Nat.le_of_ble_eq_true rfl) ⟨congrArg (fun z => some (Value.int z)) (show (1 : Int32) = lastM q p0 p1 p2 p3 from by rw [lastM, if_neg hc1, if_neg hc2, if_pos hc3]), rfl⟩
      ·
        refine Wk.icY (pc' := 22) d18_17 (XT.ii_ne_t hc3) (by decide) (by decide) ?_
        refine Wk.iloadN (pc' := 23) d18_22 rfl rfl ?_
        refine Wk.iloadN (pc' := 24) d18_23 rfl rfl ?_
        by_cases hc4 : p0 = q
        ·
          refine Wk.icN (pc' := 27) d18_24 (XT.ii_ne_f hc4) rfl ?_
          refine Wk.iconst (pc' := 28) (0 : Int32) d18_27 (by decide) rfl ?_
          exact Wk.iret (t := .int) d18_28 rfl (by simp) rfl (by simp <;> omega) (Nat.le_of_ble_eq_true rfl) ⟨congrArg (fun z => some (Value.int z)) (show (0 : Int32) = lastM q p0 p1 p2 p3 from by rw [lastM, if_neg hc1, if_neg hc2, if_neg hc3, if_pos hc4]), rfl⟩
        ·
          refine Wk.icY (pc' := 29) d18_24 (XT.ii_ne_t hc4) (by decide) (by decide) ?_
          refine Wk.iconst (pc' := 30) (-1 : Int32) d18_29 (by decide) rfl ?_
          exact Wk.iret (t := .int) d18_30 rfl (by simp) rfl (by simp <;> omega) (Nat.le_of_ble_eq_true rfl) ⟨congrArg (fun z => some (Value.int z)) (show (-1 : Int32) = lastM q p0 p1 p2 p3 from by rw [lastM, if_neg hc1, if_neg hc2, if_neg hc3, if_neg hc4]), rfl⟩
set_option maxRecDepth 65536 in
set_option maxHeartbeats 40000000 in
theorem m_exp (l : Launch) (Z : State) (a0 : Array Value) (hw : ∀ d ∈ tables_1, d.before a0 Z = true) (hB : Heap) (H : List Rec) (q p0 p1 p2 p3 m0 m1 m2 m3 : Int32) : Ctr l Z hB ({ cls := "com/example/dissect/dissect/RecentPlacesPutPinLaw", name := "expMoment", desc := "(IIIIIIIII)I" } : Jvm.MethodName) method_3_code 9 (some .int) [] ({ frames := 0, cells := 0, slots := 0, locals := 0 } : Room) #[(.int q), (.int p0), (.int p1), (.int p2), (.int p3), (.int m0), (.int m1), (.int m2), (.int m3)] H (fun v H' => v = some (.int (expM q p0 p1 p2 p3 m0 m1 m2 m3)) ∧ H' = H) := by
  refine Wk.ctr pn_5 (Ls := #[.val (.int q), .val (.int p0), .val (.int p1), .val (.int p2), .val (.int p3), .val (.int m0), .val (.int m1), .val (.int m2), .val (.int m3)]) (fun m => by first | rfl | (simp [entryFrame, mkF, argsToLocals, Value.category]; done)) ?_
  refine Wk.iload (pc' := 2) d3_0 rfl rfl ?_
  refine Wk.iloadN (pc' := 3) d3_2 rfl rfl ?_
  by_cases hc1 : p3 = q
  ·
    refine Wk.icN (pc' := 6) d3_3 (XT.ii_ne_f hc1) rfl ?_
    refine Wk.iload (pc' := 8) d3_6 rfl rfl ?_
    exact Wk.iret (t := .int) d3_8 rfl (by simp) rfl (by simp <;> omega) (Nat.le_of_ble_eq_true rfl) ⟨congrArg (fun z => some (Value.int z)) (show m3 = expM q p0 p1 p2 p3 m0 m1 m2 m3 from by rw [expM, if_pos hc1]), rfl⟩
  ·
    refine Wk.icY (pc' := 9) d3_3 (XT.ii_ne_t hc1) (by decide) (by decide) ?_
    refine Wk.iloadN (pc' := 10) d3_9 rfl rfl ?_
    refine Wk.iloadN (pc' := 11) d3_10 rfl rfl ?_
    by_cases hc2 : p2 = q
    ·
      refine Wk.icN (pc' := 14) d3_11 (XT.ii_ne_f hc2) rfl ?_
      refine Wk.iload (pc' := 16) d3_14 rfl rfl ?_
      exact Wk.iret (t := .int) d3_16 rfl (by simp) rfl (by simp <;> omega) (Nat.le_of_ble_eq_true rfl) ⟨congrArg (fun z => some (Value.int z)) (show m2 = expM q p0 p1 p2 p3 m0 m1 m2 m3 from by rw [expM, if_neg hc1, if_pos hc2]), rfl⟩
    ·
      refine Wk.icY (pc' := 17) d3_11 (XT.ii_ne_t hc2) (by decide) (by decide) ?_
      refine Wk.iloadN (pc' := 18) d3_17 rfl rfl ?_
      refine Wk.iloadN (pc' := 19) d3_18 rfl rfl ?_
      by_cases hc3 : p1 = q
      ·
        refine Wk.icN (pc' := 22) d3_19 (XT.ii_ne_f hc3) rfl ?_
        refine Wk.iload (pc' := 24) d3_22 rfl rfl ?_
        exact Wk.iret (t := .int) d3_24 rfl (by simp) rfl (by simp <;> omega) (Nat.le_of_ble_eq_true rfl) ⟨congrArg (fun z => some (Value.int z)) (show m1 = expM q p0 p1 p2 p3 m0 m1 m2 m3 from by rw [expM, if_neg hc1, if_neg hc2, if_pos hc3]), rfl⟩
      ·
        refine Wk.icY (pc' := 25) d3_19 (XT.ii_ne_t hc3) (by decide) (by decide) ?_
        refine Wk.iloadN (pc' := 26) d3_25 rfl rfl ?_
        refine Wk.iloadN (pc' := 27) d3_26 rfl rfl ?_
        by_cases hc4 : p0 = q
        ·
          refine Wk.icN (pc' := 30) d3_27 (XT.ii_ne_f hc4) rfl ?_
          refine Wk.iload (pc' := 32) d3_30 rfl rfl ?_
          exact Wk.iret (t := .int) d3_32 rfl (by simp) rfl (by simp <;> omega) (Nat.le_of_ble_eq_true rfl) ⟨congrArg (fun z => some (Value.int z)) (show m0 = expM q p0 p1 p2 p3 m0 m1 m2 m3 from by rw [expM, if_neg hc1, if_neg hc2, if_neg hc3, if_pos hc4]), rfl⟩
        ·
          refine Wk.icY (pc' := 33) d3_27 (XT.ii_ne_t hc4) (by decide) (by decide) ?_
          refine Wk.iconst (pc' := 34) (0 : Int32) d3_33 (by decide) rfl ?_
          exact Wk.iret (t := .int) d3_34 rfl (by simp) rfl (by simp <;> omega) (Nat.le_of_ble_eq_true rfl) ⟨congrArg (fun z => some (Value.int z)) (show (0 : Int32) = expM q p0 p1 p2 p3 m0 m1 m2 m3 from by rw [expM, if_neg hc1, if_neg hc2, if_neg hc3, if_neg hc4]), rfl⟩
set_option maxRecDepth 65536 in
set_option maxHeartbeats 40000000 in
theorem m_abc (l : Launch) (Z : State) (a0 : Array Value) (hw : ∀ d ∈ tables_1, d.before a0 Z = true) (hB : Heap) (H : List Rec) (i : Nat) : Ctr l Z hB ({ cls := "java/util/AbstractCollection", name := "<init>", desc := "()V" } : Jvm.MethodName) jdk_22_method_1_code 1 none [] ({ frames := 1, cells := 0, slots := 0, locals := 12 } : Room) #[(rf hB i)] H (fun v H' => v = none ∧ H' = H) := by
  refine Wk.ctr pn_6 (Ls := #[.val (rf hB i)]) (fun m => by first | rfl | (simp [entryFrame, mkF, argsToLocals, Value.category]; done)) ?_
  refine Wk.aloadN (pc' := 1) d7_0 rfl rfl rfl ?_
  refine Wk.initObj (pc' := 4) d7_1 (wd51 hw) (wd8 hw) (wd9 hw) rfl (Nat.le_of_ble_eq_true rfl) (Nat.le_of_ble_eq_true rfl) rfl ?_
  exact Wk.vret d7_4 rfl (by simp <;> omega) (Nat.le_of_ble_eq_true rfl) ⟨rfl, rfl⟩
set_option maxRecDepth 65536 in
set_option maxHeartbeats 40000000 in
theorem m_abl (l : Launch) (Z : State) (a0 : Array Value) (hw : ∀ d ∈ tables_1, d.before a0 Z = true) (hB : Heap) (H : List Rec) : Ctr l Z hB ({ cls := "java/util/AbstractList", name := "<init>", desc := "()V" } : Jvm.MethodName) jdk_39_method_1_code 1 none [] ({ frames := 2, cells := 0, slots := 0, locals := 24 } : Room) #[(rf hB (H.length + 0))] (H ++ [obj "java/util/ArrayList" ksAL [(.int (0 : Int32)), .null, (.int (0 : Int32))]]) (fun v H' => v = none ∧ H' = (H ++ [obj "java/util/ArrayList" ksAL [(.int (0 : Int32)), .null, (.int (0 : Int32))]])) := by
  refine Wk.ctr pn_7 (Ls := #[.val (rf hB (H.length + 0))]) (fun m => by first | rfl | (simp [entryFrame, mkF, argsToLocals, Value.category]; done)) ?_
  refine Wk.aloadN (pc' := 1) d6_0 rfl rfl rfl ?_
  refine Wk.callI (pc' := 4) (argsL := []) (st := []) d6_1 rfl (wd45 hw) (wd46 hw) (wd49 hw) (wd50 hw) (by decide) (lenOf pd_0 rfl) (m_abc l Z a0 hw hB (H ++ [obj "java/util/ArrayList" ksAL [(.int (0 : Int32)), .null, (.int (0 : Int32))]]) (H.length + 0)) rfl (Nat.le_of_ble_eq_true rfl) (Nat.le_of_ble_eq_true rfl) (by first | (simp only [List.length_append, List.length_cons, List.length_nil] <;> omega) | (simp <;> omega) | simp) (Nat.le_of_ble_eq_true rfl) rfl rfl ?_
  rintro _ _ ⟨rfl, hH⟩; obtain rfl := hH.symm
  show WP l Z hB _ _ _ _ _ _ _ _ (H ++ [obj "java/util/ArrayList" ksAL [(.int (0 : Int32)), .null, (.int (0 : Int32))]]) _ _ []
  refine Wk.aloadN (pc' := 5) d6_4 rfl rfl rfl ?_
  refine Wk.iconst (pc' := 6) (0 : Int32) d6_5 (by decide) rfl ?_
  refine Wk.putF0 (pc' := 9) (i := (H.length + 0)) (j := 0) (H' := (H ++ [obj "java/util/ArrayList" ksAL [(.int (0 : Int32)), .null, (.int (0 : Int32))]])) (ty := .int) d6_6 (wd52 hw) (Wk.gaB rfl) rfl (Nat.le_of_ble_eq_true rfl) (Or.inl (wd53 hw)) (wd34 hw) (by decide) rfl rfl Wk.saB rfl ?_
  exact Wk.vret d6_9 rfl (by first | (simp only [List.length_append, List.length_cons, List.length_nil] <;> omega) | (simp <;> omega) | simp) (Nat.le_of_ble_eq_true rfl) ⟨rfl, rfl⟩
set_option maxRecDepth 65536 in
set_option maxHeartbeats 40000000 in
theorem m_ali (l : Launch) (Z : State) (a0 : Array Value) (hw : ∀ d ∈ tables_1, d.before a0 Z = true) (hB : Heap) (H : List Rec) : Ctr l Z hB ({ cls := "java/util/ArrayList", name := "<init>", desc := "(I)V" } : Jvm.MethodName) jdk_38_method_1_code 2 none [] ({ frames := 3, cells := 1, slots := 1, locals := 36 } : Room) #[(rf hB (H.length + 0)), (.int (1 : Int32))] (H ++ [obj "java/util/ArrayList" ksAL [(.int (0 : Int32)), .null, (.int (0 : Int32))]]) (fun v H' => v = none ∧ H' = (H ++ [obj "java/util/ArrayList" ksAL [(.int (0 : Int32)), (rf hB (H.length + 1)), (.int (0 : Int32))], arr (.object "java/lang/Object") [.null]])) := by
  refine Wk.ctr pn_8 (Ls := #[.val (rf hB (H.length + 0)), .val (.int (1 : Int32))]) (fun m => by first | rfl | (simp [entryFrame, mkF, argsToLocals, Value.category]; done)) ?_
  refine Wk.aloadN (pc' := 1) d5_0 rfl rfl rfl ?_
  refine Wk.callI (pc' := 4) (argsL := []) (st := []) d5_1 rfl (wd39 hw) (wd40 hw) (wd43 hw) (wd44 hw) (by decide) (lenOf pd_0 rfl) (m_abl l Z a0 hw hB H) rfl (Nat.le_of_ble_eq_true rfl) (Nat.le_of_ble_eq_true rfl) (by first | (simp only [List.length_append, List.length_cons, List.length_nil] <;> omega) | (simp <;> omega) | simp) (Nat.le_of_ble_eq_true rfl) rfl rfl ?_
  rintro _ _ ⟨rfl, hH⟩; obtain rfl := hH.symm
  show WP l Z hB _ _ _ _ _ _ _ _ (H ++ [obj "java/util/ArrayList" ksAL [(.int (0 : Int32)), .null, (.int (0 : Int32))]]) _ _ []
  refine Wk.iloadN (pc' := 5) d5_4 rfl rfl ?_
  refine Wk.ifN (pc' := 8) d5_5 (XT.i0_le_f (by decide)) rfl ?_
  refine Wk.aloadN (pc' := 9) d5_8 rfl rfl rfl ?_
  refine Wk.iloadN (pc' := 10) d5_9 rfl rfl ?_
  refine Wk.newRef (pc' := 13) (C := "java/lang/Object") (i := (H.length + 1)) (nn := 1) (H' := (H ++ [obj "java/util/ArrayList" ksAL [(.int (0 : Int32)), .null, (.int (0 : Int32))], arr (.object "java/lang/Object") [.null]])) d5_10 (wd54 hw) (wd55 hw) (by decide) (by decide) (by omega) (by first | (simp only [List.length_append, List.length_cons, List.length_nil] <;> omega) | (simp <;> omega) | simp) (Nat.le_of_ble_eq_true rfl) (List.append_assoc _ _ _) (by simp) rfl ?_
  refine Wk.putF0 (pc' := 16) (i := (H.length + 0)) (j := 1) (H' := (H ++ [obj "java/util/ArrayList" ksAL [(.int (0 : Int32)), (rf hB (H.length + 1)), (.int (0 : Int32))], arr (.object "java/lang/Object") [.null]])) (ty := (.array (.object "java/lang/Object"))) d5_13 (wd56 hw) (Wk.gaB rfl) rfl (Nat.le_of_ble_eq_true rfl) (Or.inl (wd57 hw)) (wd34 hw) (by decide) rfl rfl Wk.saB rfl ?_
  refine Wk.goTo (pc' := 60) d5_16 (by decide) (by decide) ?_
  exact Wk.vret d5_60 rfl (by first | (simp only [List.length_append, List.length_cons, List.length_nil] <;> omega) | (simp <;> omega) | simp) (Nat.le_of_ble_eq_true rfl) ⟨rfl, rfl⟩
def mnI (x z : Int32) : Int32 := if z < x then z else x
def mxI (x z : Int32) : Int32 := if x < z then z else x
set_option maxRecDepth 65536 in
set_option maxHeartbeats 40000000 in
theorem m_min (l : Launch) (Z : State) (a0 : Array Value) (hw : ∀ d ∈ tables_1, d.before a0 Z = true) (hB : Heap) (H : List Rec) (x z : Int32) : Ctr l Z hB ({ cls := "java/lang/Math", name := "min", desc := "(II)I" } : Jvm.MethodName) jdk_29_method_69_code 2 (some .int) [] ({ frames := 0, cells := 0, slots := 0, locals := 0 } : Room) #[(.int x), (.int z)] H (fun v H' => v = some (.int (mnI x z)) ∧ H' = H) := by
  refine Wk.ctr pn_9 (Ls := #[.val (.int x), .val (.int z)]) (fun m => by first | rfl | (simp [entryFrame, mkF, argsToLocals, Value.category]; done)) ?_
  refine Wk.iloadN (pc' := 1) d26_0 rfl rfl ?_
  refine Wk.iloadN (pc' := 2) d26_1 rfl rfl ?_
  by_cases hc1 : z < x
  ·
    refine Wk.icY (pc' := 9) d26_2 (XT.ii_gt_t hc1) (by decide) (by decide) ?_
    refine Wk.iloadN (pc' := 10) d26_9 rfl rfl ?_
    exact Wk.iret (t := .int) d26_10 rfl (by simp) rfl (by simp <;> omega) (Nat.le_of_ble_eq_true rfl) ⟨congrArg (fun z => some (Value.int z)) (show z = mnI x z from by rw [mnI, if_pos hc1]), rfl⟩
  ·
    refine Wk.icN (pc' := 5) d26_2 (XT.ii_gt_f hc1) rfl ?_
    refine Wk.iloadN (pc' := 6) d26_5 rfl rfl ?_
    refine Wk.goTo (pc' := 10) d26_6 (by decide) (by decide) ?_
    exact Wk.iret (t := .int) d26_10 rfl (by simp) rfl (by simp <;> omega) (Nat.le_of_ble_eq_true rfl) ⟨congrArg (fun z => some (Value.int z)) (show x = mnI x z from by rw [mnI, if_neg hc1]), rfl⟩
set_option maxRecDepth 65536 in
set_option maxHeartbeats 40000000 in
theorem m_max (l : Launch) (Z : State) (a0 : Array Value) (hw : ∀ d ∈ tables_1, d.before a0 Z = true) (hB : Heap) (H : List Rec) (x z : Int32) : Ctr l Z hB ({ cls := "java/lang/Math", name := "max", desc := "(II)I" } : Jvm.MethodName) jdk_29_method_65_code 2 (some .int) [] ({ frames := 0, cells := 0, slots := 0, locals := 0 } : Room) #[(.int x), (.int z)] H (fun v H' => v = some (.int (mxI x z)) ∧ H' = H) := by
  refine Wk.ctr pn_10 (Ls := #[.val (.int x), .val (.int z)]) (fun m => by first | rfl | (simp [entryFrame, mkF, argsToLocals, Value.category]; done)) ?_
  refine Wk.iloadN (pc' := 1) d23_0 rfl rfl ?_
  refine Wk.iloadN (pc' := 2) d23_1 rfl rfl ?_
  by_cases hc1 : x < z
  ·
    refine Wk.icY (pc' := 9) d23_2 (XT.ii_lt_t hc1) (by decide) (by decide) ?_
    refine Wk.iloadN (pc' := 10) d23_9 rfl rfl ?_
    exact Wk.iret (t := .int) d23_10 rfl (by simp) rfl (by simp <;> omega) (Nat.le_of_ble_eq_true rfl) ⟨congrArg (fun z => some (Value.int z)) (show z = mxI x z from by rw [mxI, if_pos hc1]), rfl⟩
  ·
    refine Wk.icN (pc' := 5) d23_2 (XT.ii_lt_f hc1) rfl ?_
    refine Wk.iloadN (pc' := 6) d23_5 rfl rfl ?_
    refine Wk.goTo (pc' := 10) d23_6 (by decide) (by decide) ?_
    exact Wk.iret (t := .int) d23_10 rfl (by simp) rfl (by simp <;> omega) (Nat.le_of_ble_eq_true rfl) ⟨congrArg (fun z => some (Value.int z)) (show x = mxI x z from by rw [mxI, if_neg hc1]), rfl⟩
set_option maxRecDepth 65536 in
set_option maxHeartbeats 40000000 in
theorem m_nl1 (l : Launch) (Z : State) (a0 : Array Value) (hw : ∀ d ∈ tables_1, d.before a0 Z = true) (hB : Heap) (H : List Rec) : Ctr l Z hB ({ cls := "jdk/internal/util/ArraysSupport", name := "newLength", desc := "(III)I" } : Jvm.MethodName) jdk_48_method_27_code 4 (some .int) [] ({ frames := 1, cells := 0, slots := 0, locals := 14 } : Room) #[(.int (1 : Int32)), (.int (1 : Int32)), (.int (0 : Int32))] H (fun v H' => v = some (.int (2 : Int32)) ∧ H' = H) := by
  refine Wk.ctr pn_11 (Ls := #[.val (.int (1 : Int32)), .val (.int (1 : Int32)), .val (.int (0 : Int32)), .unset]) (fun m => by first | rfl | (simp [entryFrame, mkF, argsToLocals, Value.category]; done)) ?_
  refine Wk.iloadN (pc' := 1) d22_0 rfl rfl ?_
  refine Wk.iloadN (pc' := 2) d22_1 rfl rfl ?_
  refine Wk.iloadN (pc' := 3) d22_2 rfl rfl ?_
  refine Wk.callS (pc' := 6) (argsL := [(.int (1 : Int32)), (.int (0 : Int32))]) (st := [(.int (1 : Int32))]) d22_3 (wd147 hw) (wd148 hw) (wd149 hw) (wd150 hw) (by decide) (lenOf pd_1 rfl) (m_max l Z a0 hw hB H (1 : Int32) (0 : Int32)) rfl (Nat.le_of_ble_eq_true rfl) (Nat.le_of_ble_eq_true rfl) (by simp <;> omega) (Nat.le_of_ble_eq_true rfl) rfl rfl ?_
  rintro _ _ ⟨rfl, hH⟩; obtain rfl := hH.symm; rw [show mxI (1 : Int32) (0 : Int32) = (1 : Int32) from by decide]
  show WP l Z hB _ _ _ _ _ _ _ _ H _ _ [(.int (1 : Int32)), (.int (1 : Int32))]
  refine Wk.iadd (pc' := 7) d22_6 rfl ?_
  refine Wk.istoreN (pc' := 8) (Ls' := #[.val (.int (1 : Int32)), .val (.int (1 : Int32)), .val (.int (0 : Int32)), .val (.int (2 : Int32))]) d22_7 rfl rfl ?_
  refine Wk.iconst (pc' := 9) (0 : Int32) d22_8 (by decide) rfl ?_
  refine Wk.iloadN (pc' := 10) d22_9 rfl rfl ?_
  refine Wk.icN (pc' := 13) d22_10 (XT.ii_ge_f (by decide)) rfl ?_
  refine Wk.iloadN (pc' := 14) d22_13 rfl rfl ?_
  refine Wk.ldcInt (pc' := 16) d22_14 (wd151 hw) rfl ?_
  refine Wk.icN (pc' := 19) d22_16 (XT.ii_gt_f (by decide)) rfl ?_
  refine Wk.iloadN (pc' := 20) d22_19 rfl rfl ?_
  exact Wk.iret (t := .int) d22_20 rfl (by simp) rfl (by simp <;> omega) (Nat.le_of_ble_eq_true rfl) ⟨rfl, rfl⟩
set_option maxRecDepth 65536 in
set_option maxHeartbeats 40000000 in
theorem m_nl2 (l : Launch) (Z : State) (a0 : Array Value) (hw : ∀ d ∈ tables_1, d.before a0 Z = true) (hB : Heap) (H : List Rec) : Ctr l Z hB ({ cls := "jdk/internal/util/ArraysSupport", name := "newLength", desc := "(III)I" } : Jvm.MethodName) jdk_48_method_27_code 4 (some .int) [] ({ frames := 1, cells := 0, slots := 0, locals := 14 } : Room) #[(.int (2 : Int32)), (.int (1 : Int32)), (.int (1 : Int32))] H (fun v H' => v = some (.int (3 : Int32)) ∧ H' = H) := by
  refine Wk.ctr pn_11 (Ls := #[.val (.int (2 : Int32)), .val (.int (1 : Int32)), .val (.int (1 : Int32)), .unset]) (fun m => by first | rfl | (simp [entryFrame, mkF, argsToLocals, Value.category]; done)) ?_
  refine Wk.iloadN (pc' := 1) d22_0 rfl rfl ?_
  refine Wk.iloadN (pc' := 2) d22_1 rfl rfl ?_
  refine Wk.iloadN (pc' := 3) d22_2 rfl rfl ?_
  refine Wk.callS (pc' := 6) (argsL := [(.int (1 : Int32)), (.int (1 : Int32))]) (st := [(.int (2 : Int32))]) d22_3 (wd147 hw) (wd148 hw) (wd149 hw) (wd150 hw) (by decide) (lenOf pd_1 rfl) (m_max l Z a0 hw hB H (1 : Int32) (1 : Int32)) rfl (Nat.le_of_ble_eq_true rfl) (Nat.le_of_ble_eq_true rfl) (by simp <;> omega) (Nat.le_of_ble_eq_true rfl) rfl rfl ?_
  rintro _ _ ⟨rfl, hH⟩; obtain rfl := hH.symm; rw [show mxI (1 : Int32) (1 : Int32) = (1 : Int32) from by decide]
  show WP l Z hB _ _ _ _ _ _ _ _ H _ _ [(.int (1 : Int32)), (.int (2 : Int32))]
  refine Wk.iadd (pc' := 7) d22_6 rfl ?_
  refine Wk.istoreN (pc' := 8) (Ls' := #[.val (.int (2 : Int32)), .val (.int (1 : Int32)), .val (.int (1 : Int32)), .val (.int (3 : Int32))]) d22_7 rfl rfl ?_
  refine Wk.iconst (pc' := 9) (0 : Int32) d22_8 (by decide) rfl ?_
  refine Wk.iloadN (pc' := 10) d22_9 rfl rfl ?_
  refine Wk.icN (pc' := 13) d22_10 (XT.ii_ge_f (by decide)) rfl ?_
  refine Wk.iloadN (pc' := 14) d22_13 rfl rfl ?_
  refine Wk.ldcInt (pc' := 16) d22_14 (wd151 hw) rfl ?_
  refine Wk.icN (pc' := 19) d22_16 (XT.ii_gt_f (by decide)) rfl ?_
  refine Wk.iloadN (pc' := 20) d22_19 rfl rfl ?_
  exact Wk.iret (t := .int) d22_20 rfl (by simp) rfl (by simp <;> omega) (Nat.le_of_ble_eq_true rfl) ⟨rfl, rfl⟩
set_option maxRecDepth 65536 in
set_option maxHeartbeats 40000000 in
theorem m_nl3 (l : Launch) (Z : State) (a0 : Array Value) (hw : ∀ d ∈ tables_1, d.before a0 Z = true) (hB : Heap) (H : List Rec) : Ctr l Z hB ({ cls := "jdk/internal/util/ArraysSupport", name := "newLength", desc := "(III)I" } : Jvm.MethodName) jdk_48_method_27_code 4 (some .int) [] ({ frames := 1, cells := 0, slots := 0, locals := 14 } : Room) #[(.int (3 : Int32)), (.int (1 : Int32)), (.int (1 : Int32))] H (fun v H' => v = some (.int (4 : Int32)) ∧ H' = H) := by
  refine Wk.ctr pn_11 (Ls := #[.val (.int (3 : Int32)), .val (.int (1 : Int32)), .val (.int (1 : Int32)), .unset]) (fun m => by first | rfl | (simp [entryFrame, mkF, argsToLocals, Value.category]; done)) ?_
  refine Wk.iloadN (pc' := 1) d22_0 rfl rfl ?_
  refine Wk.iloadN (pc' := 2) d22_1 rfl rfl ?_
  refine Wk.iloadN (pc' := 3) d22_2 rfl rfl ?_
  refine Wk.callS (pc' := 6) (argsL := [(.int (1 : Int32)), (.int (1 : Int32))]) (st := [(.int (3 : Int32))]) d22_3 (wd147 hw) (wd148 hw) (wd149 hw) (wd150 hw) (by decide) (lenOf pd_1 rfl) (m_max l Z a0 hw hB H (1 : Int32) (1 : Int32)) rfl (Nat.le_of_ble_eq_true rfl) (Nat.le_of_ble_eq_true rfl) (by simp <;> omega) (Nat.le_of_ble_eq_true rfl) rfl rfl ?_
  rintro _ _ ⟨rfl, hH⟩; obtain rfl := hH.symm; rw [show mxI (1 : Int32) (1 : Int32) = (1 : Int32) from by decide]
  show WP l Z hB _ _ _ _ _ _ _ _ H _ _ [(.int (1 : Int32)), (.int (3 : Int32))]
  refine Wk.iadd (pc' := 7) d22_6 rfl ?_
  refine Wk.istoreN (pc' := 8) (Ls' := #[.val (.int (3 : Int32)), .val (.int (1 : Int32)), .val (.int (1 : Int32)), .val (.int (4 : Int32))]) d22_7 rfl rfl ?_
  refine Wk.iconst (pc' := 9) (0 : Int32) d22_8 (by decide) rfl ?_
  refine Wk.iloadN (pc' := 10) d22_9 rfl rfl ?_
  refine Wk.icN (pc' := 13) d22_10 (XT.ii_ge_f (by decide)) rfl ?_
  refine Wk.iloadN (pc' := 14) d22_13 rfl rfl ?_
  refine Wk.ldcInt (pc' := 16) d22_14 (wd151 hw) rfl ?_
  refine Wk.icN (pc' := 19) d22_16 (XT.ii_gt_f (by decide)) rfl ?_
  refine Wk.iloadN (pc' := 20) d22_19 rfl rfl ?_
  exact Wk.iret (t := .int) d22_20 rfl (by simp) rfl (by simp <;> omega) (Nat.le_of_ble_eq_true rfl) ⟨rfl, rfl⟩
set_option maxRecDepth 65536 in
set_option maxHeartbeats 40000000 in
theorem m_cp3_1 (l : Launch) (Z : State) (a0 : Array Value) (hw : ∀ d ∈ tables_1, d.before a0 Z = true) (hB : Heap) (H : List Rec) (mr : Addr) (mM : Mir Z "[Ljava/lang/Object;" mr) (b0 : Addr) (E0 : Exa Z hB b0 "java/lang/Integer") : Ctr l Z hB ({ cls := "java/util/Arrays", name := "copyOf", desc := "([Ljava/lang/Object;ILjava/lang/Class;)[Ljava/lang/Object;" } : Jvm.MethodName) jdk_65_method_120_code 4 (some (.array (.object "java/lang/Object"))) [] ({ frames := 1, cells := 1, slots := 2, locals := 18 } : Room) #[(rf hB (H.length + 1)), (.int (2 : Int32)), (.ref mr)] (H ++ [obj "java/util/ArrayList" ksAL [(.int (2 : Int32)), (rf hB (H.length + 1)), (.int (1 : Int32))], arr (.object "java/lang/Object") [(.ref b0)]]) (fun v H' => v = some (rf hB (H.length + 2)) ∧ H' = (H ++ [obj "java/util/ArrayList" ksAL [(.int (2 : Int32)), (rf hB (H.length + 1)), (.int (1 : Int32))], arr (.object "java/lang/Object") [(.ref b0)], arr (.object "java/lang/Object") [(.ref b0), .null]])) := by
  refine Wk.ctr pn_12 (Ls := #[.val (rf hB (H.length + 1)), .val (.int (2 : Int32)), .val (.ref mr), .unset]) (fun m => by first | rfl | (simp [entryFrame, mkF, argsToLocals, Value.category]; done)) ?_
  refine Wk.aloadN (pc' := 1) d25_0 rfl rfl rfl ?_
  refine Wk.ldcMir (pc' := 3) d25_1 (wd165 hw) mM rfl ?_
  refine Wk.acN (pc' := 6) d25_3 rfl rfl (XT.aa_ne_f rfl) rfl ?_
  refine Wk.iloadN (pc' := 7) d25_6 rfl rfl ?_
  refine Wk.newRef (pc' := 10) (C := "java/lang/Object") (i := (H.length + 2)) (nn := 2) (H' := (H ++ [obj "java/util/ArrayList" ksAL [(.int (2 : Int32)), (rf hB (H.length + 1)), (.int (1 : Int32))], arr (.object "java/lang/Object") [(.ref b0)], arr (.object "java/lang/Object") [.null, .null]])) d25_7 (wd166 hw) (wd55 hw) (by decide) (by decide) (by omega) (by first | (simp only [List.length_append, List.length_cons, List.length_nil] <;> omega) | (simp <;> omega) | simp) (Nat.le_of_ble_eq_true rfl) (List.append_assoc _ _ _) (by simp) rfl ?_
  refine Wk.goTo (pc' := 24) d25_10 (by decide) (by decide) ?_
  refine Wk.astoreN (pc' := 25) (Ls' := #[.val (rf hB (H.length + 1)), .val (.int (2 : Int32)), .val (.ref mr), .val (rf hB (H.length + 2))]) d25_24 rfl rfl rfl ?_
  refine Wk.aloadN (pc' := 26) d25_25 rfl rfl rfl ?_
  refine Wk.iconst (pc' := 27) (0 : Int32) d25_26 (by decide) rfl ?_
  refine Wk.aloadN (pc' := 28) d25_27 rfl rfl rfl ?_
  refine Wk.iconst (pc' := 29) (0 : Int32) d25_28 (by decide) rfl ?_
  refine Wk.aloadN (pc' := 30) d25_29 rfl rfl rfl ?_
  refine Wk.arrLen (pc' := 31) (i := (H.length + 1)) (z := (1 : Int32)) d25_30 (Wk.gaB rfl) (by rfl) rfl ?_
  refine Wk.iloadN (pc' := 32) d25_31 rfl rfl ?_
  refine Wk.callS (pc' := 35) (argsL := [(.int (1 : Int32)), (.int (2 : Int32))]) (st := [(.int (0 : Int32)), (rf hB (H.length + 2)), (.int (0 : Int32)), (rf hB (H.length + 1))]) d25_32 (wd167 hw) (wd168 hw) (wd149 hw) (wd169 hw) (by decide) (lenOf pd_1 rfl) (m_min l Z a0 hw hB (H ++ [obj "java/util/ArrayList" ksAL [(.int (2 : Int32)), (rf hB (H.length + 1)), (.int (1 : Int32))], arr (.object "java/lang/Object") [(.ref b0)], arr (.object "java/lang/Object") [.null, .null]]) (1 : Int32) (2 : Int32)) rfl (Nat.le_of_ble_eq_true rfl) (Nat.le_of_ble_eq_true rfl) (by first | (simp only [List.length_append, List.length_cons, List.length_nil] <;> omega) | (simp <;> omega) | simp) (Nat.le_of_ble_eq_true rfl) rfl rfl ?_
  rintro _ _ ⟨rfl, hH⟩; obtain rfl := hH.symm; rw [show mnI (1 : Int32) (2 : Int32) = (1 : Int32) from by decide]
  show WP l Z hB _ _ _ _ _ _ _ _ (H ++ [obj "java/util/ArrayList" ksAL [(.int (2 : Int32)), (rf hB (H.length + 1)), (.int (1 : Int32))], arr (.object "java/lang/Object") [(.ref b0)], arr (.object "java/lang/Object") [.null, .null]]) _ _ [(.int (1 : Int32)), (.int (0 : Int32)), (rf hB (H.length + 2)), (.int (0 : Int32)), (rf hB (H.length + 1))]
  refine Wk.arraycopy (pc' := 38) (t := .object "java/lang/Object") (t' := .object "java/lang/Object") (i := (H.length + 2)) (vs := [(.ref b0)]) (us := [(.ref b0)]) (z := ([(.ref b0)] : List Value).length.toInt32) (dv := .null) (spn := 0) (dpn := 0) (n := 1) (H' := (H ++ [obj "java/util/ArrayList" ksAL [(.int (2 : Int32)), (rf hB (H.length + 1)), (.int (1 : Int32))], arr (.object "java/lang/Object") [(.ref b0)], arr (.object "java/lang/Object") [(.ref b0), .null]])) d25_35 (wd170 hw) (wd173 hw) (wd171 hw) (wd172 hw) (fun _ P => P.arv (vs := [(.ref b0)]) (Wk.gaB rfl) (Nat.le_of_ble_eq_true rfl) .null) (Wk.gaB rfl) (Or.inr ⟨rfl, rfl, fun _ P => ⟨Wk.stoO P (Wk.gaB rfl) (Ins.of_exa (E0.ext P.toExt) (wd83 hw)), trivial⟩⟩) (by decide) (by decide) (by decide) (by decide) (by decide) (by decide) (Nat.le_of_ble_eq_true rfl) (Nat.le_of_ble_eq_true rfl) (Nat.le_of_ble_eq_true rfl) rfl rfl (by decide) (Nat.le_of_ble_eq_true rfl) Wk.saB rfl ?_
  refine Wk.aloadN (pc' := 39) d25_38 rfl rfl rfl ?_
  exact Wk.aret (t := (.array (.object "java/lang/Object"))) d25_39 rfl rfl rfl (by first | (simp only [List.length_append, List.length_cons, List.length_nil] <;> omega) | (simp <;> omega) | simp) (Nat.le_of_ble_eq_true rfl) ⟨rfl, rfl⟩
set_option maxRecDepth 65536 in
set_option maxHeartbeats 40000000 in
theorem m_cp2_1 (l : Launch) (Z : State) (a0 : Array Value) (hw : ∀ d ∈ tables_1, d.before a0 Z = true) (hB : Heap) (H : List Rec) (mr : Addr) (mM : Mir Z "[Ljava/lang/Object;" mr) (b0 : Addr) (E0 : Exa Z hB b0 "java/lang/Integer") : Ctr l Z hB ({ cls := "java/util/Arrays", name := "copyOf", desc := "([Ljava/lang/Object;I)[Ljava/lang/Object;" } : Jvm.MethodName) jdk_65_method_119_code 2 (some (.array (.object "java/lang/Object"))) [] ({ frames := 2, cells := 1, slots := 2, locals := 33 } : Room) #[(rf hB (H.length + 1)), (.int (2 : Int32))] (H ++ [obj "java/util/ArrayList" ksAL [(.int (2 : Int32)), (rf hB (H.length + 1)), (.int (1 : Int32))], arr (.object "java/lang/Object") [(.ref b0)]]) (fun v H' => v = some (rf hB (H.length + 2)) ∧ H' = (H ++ [obj "java/util/ArrayList" ksAL [(.int (2 : Int32)), (rf hB (H.length + 1)), (.int (1 : Int32))], arr (.object "java/lang/Object") [(.ref b0)], arr (.object "java/lang/Object") [(.ref b0), .null]])) := by
  refine Wk.ctr pn_13 (Ls := #[.val (rf hB (H.length + 1)), .val (.int (2 : Int32))]) (fun m => by first | rfl | (simp [entryFrame, mkF, argsToLocals, Value.category]; done)) ?_
  refine Wk.aloadN (pc' := 1) d24_0 rfl rfl rfl ?_
  refine Wk.iloadN (pc' := 2) d24_1 rfl rfl ?_
  refine Wk.aloadN (pc' := 3) d24_2 rfl rfl rfl ?_
  refine Wk.getCls (pc' := 6) (C := "[Ljava/lang/Object;") (mr := mr) d24_3 (wd156 hw) (wd157 hw) (Wk.nfSel (wd159 hw)) (wd159 hw) (wd158 hw) (wd160 hw) (fun _ P => P.exaA (Wk.gaB rfl) rfl) mM rfl (Nat.le_of_ble_eq_true rfl) (by show 2 + (nativeFrameWords "java/lang/Object" "getClass" 1 + 11) ≤ _; decide) rfl ?_
  refine Wk.callS (pc' := 9) (argsL := [(rf hB (H.length + 1)), (.int (2 : Int32)), (.ref mr)]) (st := []) d24_6 (wd162 hw) (wd163 hw) (wd154 hw) (wd164 hw) (by decide) (lenOf pd_2 rfl) (m_cp3_1 l Z a0 hw hB H mr mM b0 E0) rfl (Nat.le_of_ble_eq_true rfl) (Nat.le_of_ble_eq_true rfl) (by first | (simp only [List.length_append, List.length_cons, List.length_nil] <;> omega) | (simp <;> omega) | simp) (Nat.le_of_ble_eq_true rfl) rfl rfl ?_
  rintro _ _ ⟨rfl, hH⟩; obtain rfl := hH.symm
  show WP l Z hB _ _ _ _ _ _ _ _ (H ++ [obj "java/util/ArrayList" ksAL [(.int (2 : Int32)), (rf hB (H.length + 1)), (.int (1 : Int32))], arr (.object "java/lang/Object") [(.ref b0)], arr (.object "java/lang/Object") [(.ref b0), .null]]) _ _ [(rf hB (H.length + 2))]
  exact Wk.aret (t := (.array (.object "java/lang/Object"))) d24_9 rfl rfl rfl (by first | (simp only [List.length_append, List.length_cons, List.length_nil] <;> omega) | (simp <;> omega) | simp) (Nat.le_of_ble_eq_true rfl) ⟨rfl, rfl⟩
set_option maxRecDepth 65536 in
set_option maxHeartbeats 40000000 in
theorem m_gri_1 (l : Launch) (Z : State) (a0 : Array Value) (hw : ∀ d ∈ tables_1, d.before a0 Z = true) (hB : Heap) (H : List Rec) (mr : Addr) (mM : Mir Z "[Ljava/lang/Object;" mr) (b0 : Addr) (E0 : Exa Z hB b0 "java/lang/Integer") : Ctr l Z hB ({ cls := "java/util/ArrayList", name := "grow", desc := "(I)[Ljava/lang/Object;" } : Jvm.MethodName) jdk_38_method_6_code 4 (some (.array (.object "java/lang/Object"))) [] ({ frames := 3, cells := 1, slots := 2, locals := 47 } : Room) #[(rf hB (H.length + 0)), (.int (2 : Int32))] (H ++ [obj "java/util/ArrayList" ksAL [(.int (2 : Int32)), (rf hB (H.length + 1)), (.int (1 : Int32))], arr (.object "java/lang/Object") [(.ref b0)]]) (fun v H' => v = some (rf hB (H.length + 2)) ∧ H' = (H ++ [obj "java/util/ArrayList" ksAL [(.int (2 : Int32)), (rf hB (H.length + 2)), (.int (1 : Int32))], arr (.object "java/lang/Object") [(.ref b0)], arr (.object "java/lang/Object") [(.ref b0), .null]])) := by
  refine Wk.ctr pn_14 (Ls := #[.val (rf hB (H.length + 0)), .val (.int (2 : Int32)), .unset, .unset]) (fun m => by first | rfl | (simp [entryFrame, mkF, argsToLocals, Value.category]; done)) ?_
  refine Wk.aloadN (pc' := 1) d21_0 rfl rfl rfl ?_
  refine Wk.getF0 (pc' := 4) (i := (H.length + 0)) (j := 1) d21_1 (wd56 hw) (Wk.gaB rfl) rfl rfl rfl ?_
  refine Wk.arrLen (pc' := 5) (i := (H.length + 1)) (z := (1 : Int32)) d21_4 (Wk.gaB rfl) (by rfl) rfl ?_
  refine Wk.istoreN (pc' := 6) (Ls' := #[.val (rf hB (H.length + 0)), .val (.int (2 : Int32)), .val (.int (1 : Int32)), .unset]) d21_5 rfl rfl ?_
  refine Wk.iloadN (pc' := 7) d21_6 rfl rfl ?_
  refine Wk.ifY (pc' := 20) d21_7 (XT.i0_gt_t (by decide)) (by decide) (by decide) ?_
  refine Wk.iloadN (pc' := 21) d21_20 rfl rfl ?_
  refine Wk.iloadN (pc' := 22) d21_21 rfl rfl ?_
  refine Wk.iloadN (pc' := 23) d21_22 rfl rfl ?_
  refine Wk.isub (pc' := 24) d21_23 rfl ?_
  refine Wk.iloadN (pc' := 25) d21_24 rfl rfl ?_
  refine Wk.iconst (pc' := 26) (1 : Int32) d21_25 (by decide) rfl ?_
  refine Wk.ishr (pc' := 27) d21_26 rfl ?_
  rw [show ((1 : Int32) >>> ((1 : Int32) &&& 31)) = (0 : Int32) from by decide]
  refine Wk.callS (pc' := 30) (argsL := [(.int (1 : Int32)), (.int (1 : Int32)), (.int (0 : Int32))]) (st := []) d21_27 (wd143 hw) (wd144 hw) (wd145 hw) (wd146 hw) (by decide) (lenOf pd_3 rfl) (m_nl1 l Z a0 hw hB (H ++ [obj "java/util/ArrayList" ksAL [(.int (2 : Int32)), (rf hB (H.length + 1)), (.int (1 : Int32))], arr (.object "java/lang/Object") [(.ref b0)]])) rfl (Nat.le_of_ble_eq_true rfl) (Nat.le_of_ble_eq_true rfl) (by first | (simp only [List.length_append, List.length_cons, List.length_nil] <;> omega) | (simp <;> omega) | simp) (Nat.le_of_ble_eq_true rfl) rfl rfl ?_
  rintro _ _ ⟨rfl, hH⟩; obtain rfl := hH.symm
  show WP l Z hB _ _ _ _ _ _ _ _ (H ++ [obj "java/util/ArrayList" ksAL [(.int (2 : Int32)), (rf hB (H.length + 1)), (.int (1 : Int32))], arr (.object "java/lang/Object") [(.ref b0)]]) _ _ [(.int (2 : Int32))]
  refine Wk.istoreN (pc' := 31) (Ls' := #[.val (rf hB (H.length + 0)), .val (.int (2 : Int32)), .val (.int (1 : Int32)), .val (.int (2 : Int32))]) d21_30 rfl rfl ?_
  refine Wk.aloadN (pc' := 32) d21_31 rfl rfl rfl ?_
  refine Wk.aloadN (pc' := 33) d21_32 rfl rfl rfl ?_
  refine Wk.getF0 (pc' := 36) (i := (H.length + 0)) (j := 1) d21_33 (wd56 hw) (Wk.gaB rfl) rfl rfl rfl ?_
  refine Wk.iloadN (pc' := 37) d21_36 rfl rfl ?_
  refine Wk.callS (pc' := 40) (argsL := [(rf hB (H.length + 1)), (.int (2 : Int32))]) (st := [(rf hB (H.length + 0))]) d21_37 (wd152 hw) (wd153 hw) (wd154 hw) (wd155 hw) (by decide) (lenOf pd_4 rfl) (m_cp2_1 l Z a0 hw hB H mr mM b0 E0) rfl (Nat.le_of_ble_eq_true rfl) (Nat.le_of_ble_eq_true rfl) (by first | (simp only [List.length_append, List.length_cons, List.length_nil] <;> omega) | (simp <;> omega) | simp) (Nat.le_of_ble_eq_true rfl) rfl rfl ?_
  rintro _ _ ⟨rfl, hH⟩; obtain rfl := hH.symm
  show WP l Z hB _ _ _ _ _ _ _ _ (H ++ [obj "java/util/ArrayList" ksAL [(.int (2 : Int32)), (rf hB (H.length + 1)), (.int (1 : Int32))], arr (.object "java/lang/Object") [(.ref b0)], arr (.object "java/lang/Object") [(.ref b0), .null]]) _ _ [(rf hB (H.length + 2)), (rf hB (H.length + 0))]
  refine Wk.dupX1 (pc' := 41) d21_40 rfl rfl rfl ?_
  refine Wk.putF0 (pc' := 44) (i := (H.length + 0)) (j := 1) (H' := (H ++ [obj "java/util/ArrayList" ksAL [(.int (2 : Int32)), (rf hB (H.length + 2)), (.int (1 : Int32))], arr (.object "java/lang/Object") [(.ref b0)], arr (.object "java/lang/Object") [(.ref b0), .null]])) (ty := (.array (.object "java/lang/Object"))) d21_41 (wd56 hw) (Wk.gaB rfl) rfl (Nat.le_of_ble_eq_true rfl) (Or.inl (wd57 hw)) (wd34 hw) (by decide) rfl rfl Wk.saB rfl ?_
  exact Wk.aret (t := (.array (.object "java/lang/Object"))) d21_44 rfl rfl rfl (by first | (simp only [List.length_append, List.length_cons, List.length_nil] <;> omega) | (simp <;> omega) | simp) (Nat.le_of_ble_eq_true rfl) ⟨rfl, rfl⟩
set_option maxRecDepth 65536 in
set_option maxHeartbeats 40000000 in
theorem m_gr_1 (l : Launch) (Z : State) (a0 : Array Value) (hw : ∀ d ∈ tables_1, d.before a0 Z = true) (hB : Heap) (H : List Rec) (mr : Addr) (mM : Mir Z "[Ljava/lang/Object;" mr) (b0 : Addr) (E0 : Exa Z hB b0 "java/lang/Integer") : Ctr l Z hB ({ cls := "java/util/ArrayList", name := "grow", desc := "()[Ljava/lang/Object;" } : Jvm.MethodName) jdk_38_method_7_code 1 (some (.array (.object "java/lang/Object"))) [] ({ frames := 4, cells := 1, slots := 2, locals := 62 } : Room) #[(rf hB (H.length + 0))] (H ++ [obj "java/util/ArrayList" ksAL [(.int (2 : Int32)), (rf hB (H.length + 1)), (.int (1 : Int32))], arr (.object "java/lang/Object") [(.ref b0)]]) (fun v H' => v = some (rf hB (H.length + 2)) ∧ H' = (H ++ [obj "java/util/ArrayList" ksAL [(.int (2 : Int32)), (rf hB (H.length + 2)), (.int (1 : Int32))], arr (.object "java/lang/Object") [(.ref b0)], arr (.object "java/lang/Object") [(.ref b0), .null]])) := by
  refine Wk.ctr pn_15 (Ls := #[.val (rf hB (H.length + 0))]) (fun m => by first | rfl | (simp [entryFrame, mkF, argsToLocals, Value.category]; done)) ?_
  refine Wk.aloadN (pc' := 1) d20_0 rfl rfl rfl ?_
  refine Wk.aloadN (pc' := 2) d20_1 rfl rfl rfl ?_
  refine Wk.getF0 (pc' := 5) (i := (H.length + 0)) (j := 2) d20_2 (wd76 hw) (Wk.gaB rfl) rfl rfl rfl ?_
  refine Wk.iconst (pc' := 6) (1 : Int32) d20_5 (by decide) rfl ?_
  refine Wk.iadd (pc' := 7) d20_6 rfl ?_
  refine Wk.callP (pc' := 10) (argsL := [(.int (2 : Int32))]) (st := []) d20_7 (wd138 hw) (wd139 hw) (wd141 hw) (wd140 hw) (wd35 hw) (wd142 hw) (by decide) (lenOf pd_5 rfl) (fun _ P => P.exa (Wk.gaB rfl)) (m_gri_1 l Z a0 hw hB H mr mM b0 E0) rfl (Nat.le_of_ble_eq_true rfl) (Nat.le_of_ble_eq_true rfl) (by first | (simp only [List.length_append, List.length_cons, List.length_nil] <;> omega) | (simp <;> omega) | simp) (Nat.le_of_ble_eq_true rfl) rfl rfl ?_
  rintro _ _ ⟨rfl, hH⟩; obtain rfl := hH.symm
  show WP l Z hB _ _ _ _ _ _ _ _ (H ++ [obj "java/util/ArrayList" ksAL [(.int (2 : Int32)), (rf hB (H.length + 2)), (.int (1 : Int32))], arr (.object "java/lang/Object") [(.ref b0)], arr (.object "java/lang/Object") [(.ref b0), .null]]) _ _ [(rf hB (H.length + 2))]
  exact Wk.aret (t := (.array (.object "java/lang/Object"))) d20_10 rfl rfl rfl (by first | (simp only [List.length_append, List.length_cons, List.length_nil] <;> omega) | (simp <;> omega) | simp) (Nat.le_of_ble_eq_true rfl) ⟨rfl, rfl⟩
set_option maxRecDepth 65536 in
set_option maxHeartbeats 40000000 in
theorem m_cp3_2 (l : Launch) (Z : State) (a0 : Array Value) (hw : ∀ d ∈ tables_1, d.before a0 Z = true) (hB : Heap) (H : List Rec) (mr : Addr) (mM : Mir Z "[Ljava/lang/Object;" mr) (b0 b1 : Addr) (E0 : Exa Z hB b0 "java/lang/Integer") (E1 : Exa Z hB b1 "java/lang/Integer") : Ctr l Z hB ({ cls := "java/util/Arrays", name := "copyOf", desc := "([Ljava/lang/Object;ILjava/lang/Class;)[Ljava/lang/Object;" } : Jvm.MethodName) jdk_65_method_120_code 4 (some (.array (.object "java/lang/Object"))) [] ({ frames := 1, cells := 1, slots := 3, locals := 18 } : Room) #[(rf hB (H.length + 2)), (.int (3 : Int32)), (.ref mr)] (H ++ [obj "java/util/ArrayList" ksAL [(.int (3 : Int32)), (rf hB (H.length + 2)), (.int (2 : Int32))], arr (.object "java/lang/Object") [(.ref b0)], arr (.object "java/lang/Object") [(.ref b0), (.ref b1)]]) (fun v H' => v = some (rf hB (H.length + 3)) ∧ H' = (H ++ [obj "java/util/ArrayList" ksAL [(.int (3 : Int32)), (rf hB (H.length + 2)), (.int (2 : Int32))], arr (.object "java/lang/Object") [(.ref b0)], arr (.object "java/lang/Object") [(.ref b0), (.ref b1)], arr (.object "java/lang/Object") [(.ref b0), (.ref b1), .null]])) := by
  refine Wk.ctr pn_12 (Ls := #[.val (rf hB (H.length + 2)), .val (.int (3 : Int32)), .val (.ref mr), .unset]) (fun m => by first | rfl | (simp [entryFrame, mkF, argsToLocals, Value.category]; done)) ?_
  refine Wk.aloadN (pc' := 1) d25_0 rfl rfl rfl ?_
  refine Wk.ldcMir (pc' := 3) d25_1 (wd165 hw) mM rfl ?_
  refine Wk.acN (pc' := 6) d25_3 rfl rfl (XT.aa_ne_f rfl) rfl ?_
  refine Wk.iloadN (pc' := 7) d25_6 rfl rfl ?_
  refine Wk.newRef (pc' := 10) (C := "java/lang/Object") (i := (H.length + 3)) (nn := 3) (H' := (H ++ [obj "java/util/ArrayList" ksAL [(.int (3 : Int32)), (rf hB (H.length + 2)), (.int (2 : Int32))], arr (.object "java/lang/Object") [(.ref b0)], arr (.object "java/lang/Object") [(.ref b0), (.ref b1)], arr (.object "java/lang/Object") [.null, .null, .null]])) d25_7 (wd166 hw) (wd55 hw) (by decide) (by decide) (by omega) (by first | (simp only [List.length_append, List.length_cons, List.length_nil] <;> omega) | (simp <;> omega) | simp) (Nat.le_of_ble_eq_true rfl) (List.append_assoc _ _ _) (by simp) rfl ?_
  refine Wk.goTo (pc' := 24) d25_10 (by decide) (by decide) ?_
  refine Wk.astoreN (pc' := 25) (Ls' := #[.val (rf hB (H.length + 2)), .val (.int (3 : Int32)), .val (.ref mr), .val (rf hB (H.length + 3))]) d25_24 rfl rfl rfl ?_
  refine Wk.aloadN (pc' := 26) d25_25 rfl rfl rfl ?_
  refine Wk.iconst (pc' := 27) (0 : Int32) d25_26 (by decide) rfl ?_
  refine Wk.aloadN (pc' := 28) d25_27 rfl rfl rfl ?_
  refine Wk.iconst (pc' := 29) (0 : Int32) d25_28 (by decide) rfl ?_
  refine Wk.aloadN (pc' := 30) d25_29 rfl rfl rfl ?_
  refine Wk.arrLen (pc' := 31) (i := (H.length + 2)) (z := (2 : Int32)) d25_30 (Wk.gaB rfl) (by rfl) rfl ?_
  refine Wk.iloadN (pc' := 32) d25_31 rfl rfl ?_
  refine Wk.callS (pc' := 35) (argsL := [(.int (2 : Int32)), (.int (3 : Int32))]) (st := [(.int (0 : Int32)), (rf hB (H.length + 3)), (.int (0 : Int32)), (rf hB (H.length + 2))]) d25_32 (wd167 hw) (wd168 hw) (wd149 hw) (wd169 hw) (by decide) (lenOf pd_1 rfl) (m_min l Z a0 hw hB (H ++ [obj "java/util/ArrayList" ksAL [(.int (3 : Int32)), (rf hB (H.length + 2)), (.int (2 : Int32))], arr (.object "java/lang/Object") [(.ref b0)], arr (.object "java/lang/Object") [(.ref b0), (.ref b1)], arr (.object "java/lang/Object") [.null, .null, .null]]) (2 : Int32) (3 : Int32)) rfl (Nat.le_of_ble_eq_true rfl) (Nat.le_of_ble_eq_true rfl) (by first | (simp only [List.length_append, List.length_cons, List.length_nil] <;> omega) | (simp <;> omega) | simp) (Nat.le_of_ble_eq_true rfl) rfl rfl ?_
  rintro _ _ ⟨rfl, hH⟩; obtain rfl := hH.symm; rw [show mnI (2 : Int32) (3 : Int32) = (2 : Int32) from by decide]
  show WP l Z hB _ _ _ _ _ _ _ _ (H ++ [obj "java/util/ArrayList" ksAL [(.int (3 : Int32)), (rf hB (H.length + 2)), (.int (2 : Int32))], arr (.object "java/lang/Object") [(.ref b0)], arr (.object "java/lang/Object") [(.ref b0), (.ref b1)], arr (.object "java/lang/Object") [.null, .null, .null]]) _ _ [(.int (2 : Int32)), (.int (0 : Int32)), (rf hB (H.length + 3)), (.int (0 : Int32)), (rf hB (H.length + 2))]
  refine Wk.arraycopy (pc' := 38) (t := .object "java/lang/Object") (t' := .object "java/lang/Object") (i := (H.length + 3)) (vs := [(.ref b0), (.ref b1)]) (us := [(.ref b0), (.ref b1)]) (z := ([(.ref b0), (.ref b1)] : List Value).length.toInt32) (dv := .null) (spn := 0) (dpn := 0) (n := 2) (H' := (H ++ [obj "java/util/ArrayList" ksAL [(.int (3 : Int32)), (rf hB (H.length + 2)), (.int (2 : Int32))], arr (.object "java/lang/Object") [(.ref b0)], arr (.object "java/lang/Object") [(.ref b0), (.ref b1)], arr (.object "java/lang/Object") [(.ref b0), (.ref b1), .null]])) d25_35 (wd170 hw) (wd173 hw) (wd171 hw) (wd172 hw) (fun _ P => P.arv (vs := [(.ref b0), (.ref b1)]) (Wk.gaB rfl) (Nat.le_of_ble_eq_true rfl) .null) (Wk.gaB rfl) (Or.inr ⟨rfl, rfl, fun _ P => ⟨Wk.stoO P (Wk.gaB rfl) (Ins.of_exa (E0.ext P.toExt) (wd83 hw)), Wk.stoO P (Wk.gaB rfl) (Ins.of_exa (E1.ext P.toExt) (wd83 hw)), trivial⟩⟩) (by decide) (by decide) (by decide) (by decide) (by decide) (by decide) (Nat.le_of_ble_eq_true rfl) (Nat.le_of_ble_eq_true rfl) (Nat.le_of_ble_eq_true rfl) rfl rfl (by decide) (Nat.le_of_ble_eq_true rfl) Wk.saB rfl ?_
  refine Wk.aloadN (pc' := 39) d25_38 rfl rfl rfl ?_
  exact Wk.aret (t := (.array (.object "java/lang/Object"))) d25_39 rfl rfl rfl (by first | (simp only [List.length_append, List.length_cons, List.length_nil] <;> omega) | (simp <;> omega) | simp) (Nat.le_of_ble_eq_true rfl) ⟨rfl, rfl⟩
set_option maxRecDepth 65536 in
set_option maxHeartbeats 40000000 in
theorem m_cp2_2 (l : Launch) (Z : State) (a0 : Array Value) (hw : ∀ d ∈ tables_1, d.before a0 Z = true) (hB : Heap) (H : List Rec) (mr : Addr) (mM : Mir Z "[Ljava/lang/Object;" mr) (b0 b1 : Addr) (E0 : Exa Z hB b0 "java/lang/Integer") (E1 : Exa Z hB b1 "java/lang/Integer") : Ctr l Z hB ({ cls := "java/util/Arrays", name := "copyOf", desc := "([Ljava/lang/Object;I)[Ljava/lang/Object;" } : Jvm.MethodName) jdk_65_method_119_code 2 (some (.array (.object "java/lang/Object"))) [] ({ frames := 2, cells := 1, slots := 3, locals := 33 } : Room) #[(rf hB (H.length + 2)), (.int (3 : Int32))] (H ++ [obj "java/util/ArrayList" ksAL [(.int (3 : Int32)), (rf hB (H.length + 2)), (.int (2 : Int32))], arr (.object "java/lang/Object") [(.ref b0)], arr (.object "java/lang/Object") [(.ref b0), (.ref b1)]]) (fun v H' => v = some (rf hB (H.length + 3)) ∧ H' = (H ++ [obj "java/util/ArrayList" ksAL [(.int (3 : Int32)), (rf hB (H.length + 2)), (.int (2 : Int32))], arr (.object "java/lang/Object") [(.ref b0)], arr (.object "java/lang/Object") [(.ref b0), (.ref b1)], arr (.object "java/lang/Object") [(.ref b0), (.ref b1), .null]])) := by
  refine Wk.ctr pn_13 (Ls := #[.val (rf hB (H.length + 2)), .val (.int (3 : Int32))]) (fun m => by first | rfl | (simp [entryFrame, mkF, argsToLocals, Value.category]; done)) ?_
  refine Wk.aloadN (pc' := 1) d24_0 rfl rfl rfl ?_
  refine Wk.iloadN (pc' := 2) d24_1 rfl rfl ?_
  refine Wk.aloadN (pc' := 3) d24_2 rfl rfl rfl ?_
  refine Wk.getCls (pc' := 6) (C := "[Ljava/lang/Object;") (mr := mr) d24_3 (wd156 hw) (wd157 hw) (Wk.nfSel (wd159 hw)) (wd159 hw) (wd158 hw) (wd160 hw) (fun _ P => P.exaA (Wk.gaB rfl) rfl) mM rfl (Nat.le_of_ble_eq_true rfl) (by show 2 + (nativeFrameWords "java/lang/Object" "getClass" 1 + 11) ≤ _; decide) rfl ?_
  refine Wk.callS (pc' := 9) (argsL := [(rf hB (H.length + 2)), (.int (3 : Int32)), (.ref mr)]) (st := []) d24_6 (wd162 hw) (wd163 hw) (wd154 hw) (wd164 hw) (by decide) (lenOf pd_2 rfl) (m_cp3_2 l Z a0 hw hB H mr mM b0 b1 E0 E1) rfl (Nat.le_of_ble_eq_true rfl) (Nat.le_of_ble_eq_true rfl) (by first | (simp only [List.length_append, List.length_cons, List.length_nil] <;> omega) | (simp <;> omega) | simp) (Nat.le_of_ble_eq_true rfl) rfl rfl ?_
  rintro _ _ ⟨rfl, hH⟩; obtain rfl := hH.symm
  show WP l Z hB _ _ _ _ _ _ _ _ (H ++ [obj "java/util/ArrayList" ksAL [(.int (3 : Int32)), (rf hB (H.length + 2)), (.int (2 : Int32))], arr (.object "java/lang/Object") [(.ref b0)], arr (.object "java/lang/Object") [(.ref b0), (.ref b1)], arr (.object "java/lang/Object") [(.ref b0), (.ref b1), .null]]) _ _ [(rf hB (H.length + 3))]
  exact Wk.aret (t := (.array (.object "java/lang/Object"))) d24_9 rfl rfl rfl (by first | (simp only [List.length_append, List.length_cons, List.length_nil] <;> omega) | (simp <;> omega) | simp) (Nat.le_of_ble_eq_true rfl) ⟨rfl, rfl⟩
set_option maxRecDepth 65536 in
set_option maxHeartbeats 40000000 in
theorem m_gri_2 (l : Launch) (Z : State) (a0 : Array Value) (hw : ∀ d ∈ tables_1, d.before a0 Z = true) (hB : Heap) (H : List Rec) (mr : Addr) (mM : Mir Z "[Ljava/lang/Object;" mr) (b0 b1 : Addr) (E0 : Exa Z hB b0 "java/lang/Integer") (E1 : Exa Z hB b1 "java/lang/Integer") : Ctr l Z hB ({ cls := "java/util/ArrayList", name := "grow", desc := "(I)[Ljava/lang/Object;" } : Jvm.MethodName) jdk_38_method_6_code 4 (some (.array (.object "java/lang/Object"))) [] ({ frames := 3, cells := 1, slots := 3, locals := 47 } : Room) #[(rf hB (H.length + 0)), (.int (3 : Int32))] (H ++ [obj "java/util/ArrayList" ksAL [(.int (3 : Int32)), (rf hB (H.length + 2)), (.int (2 : Int32))], arr (.object "java/lang/Object") [(.ref b0)], arr (.object "java/lang/Object") [(.ref b0), (.ref b1)]]) (fun v H' => v = some (rf hB (H.length + 3)) ∧ H' = (H ++ [obj "java/util/ArrayList" ksAL [(.int (3 : Int32)), (rf hB (H.length + 3)), (.int (2 : Int32))], arr (.object "java/lang/Object") [(.ref b0)], arr (.object "java/lang/Object") [(.ref b0), (.ref b1)], arr (.object "java/lang/Object") [(.ref b0), (.ref b1), .null]])) := by
  refine Wk.ctr pn_14 (Ls := #[.val (rf hB (H.length + 0)), .val (.int (3 : Int32)), .unset, .unset]) (fun m => by first | rfl | (simp [entryFrame, mkF, argsToLocals, Value.category]; done)) ?_
  refine Wk.aloadN (pc' := 1) d21_0 rfl rfl rfl ?_
  refine Wk.getF0 (pc' := 4) (i := (H.length + 0)) (j := 1) d21_1 (wd56 hw) (Wk.gaB rfl) rfl rfl rfl ?_
  refine Wk.arrLen (pc' := 5) (i := (H.length + 2)) (z := (2 : Int32)) d21_4 (Wk.gaB rfl) (by rfl) rfl ?_
  refine Wk.istoreN (pc' := 6) (Ls' := #[.val (rf hB (H.length + 0)), .val (.int (3 : Int32)), .val (.int (2 : Int32)), .unset]) d21_5 rfl rfl ?_
  refine Wk.iloadN (pc' := 7) d21_6 rfl rfl ?_
  refine Wk.ifY (pc' := 20) d21_7 (XT.i0_gt_t (by decide)) (by decide) (by decide) ?_
  refine Wk.iloadN (pc' := 21) d21_20 rfl rfl ?_
  refine Wk.iloadN (pc' := 22) d21_21 rfl rfl ?_
  refine Wk.iloadN (pc' := 23) d21_22 rfl rfl ?_
  refine Wk.isub (pc' := 24) d21_23 rfl ?_
  refine Wk.iloadN (pc' := 25) d21_24 rfl rfl ?_
  refine Wk.iconst (pc' := 26) (1 : Int32) d21_25 (by decide) rfl ?_
  refine Wk.ishr (pc' := 27) d21_26 rfl ?_
  rw [show ((2 : Int32) >>> ((1 : Int32) &&& 31)) = (1 : Int32) from by decide]
  refine Wk.callS (pc' := 30) (argsL := [(.int (2 : Int32)), (.int (1 : Int32)), (.int (1 : Int32))]) (st := []) d21_27 (wd143 hw) (wd144 hw) (wd145 hw) (wd146 hw) (by decide) (lenOf pd_3 rfl) (m_nl2 l Z a0 hw hB (H ++ [obj "java/util/ArrayList" ksAL [(.int (3 : Int32)), (rf hB (H.length + 2)), (.int (2 : Int32))], arr (.object "java/lang/Object") [(.ref b0)], arr (.object "java/lang/Object") [(.ref b0), (.ref b1)]])) rfl (Nat.le_of_ble_eq_true rfl) (Nat.le_of_ble_eq_true rfl) (by first | (simp only [List.length_append, List.length_cons, List.length_nil] <;> omega) | (simp <;> omega) | simp) (Nat.le_of_ble_eq_true rfl) rfl rfl ?_
  rintro _ _ ⟨rfl, hH⟩; obtain rfl := hH.symm
  show WP l Z hB _ _ _ _ _ _ _ _ (H ++ [obj "java/util/ArrayList" ksAL [(.int (3 : Int32)), (rf hB (H.length + 2)), (.int (2 : Int32))], arr (.object "java/lang/Object") [(.ref b0)], arr (.object "java/lang/Object") [(.ref b0), (.ref b1)]]) _ _ [(.int (3 : Int32))]
  refine Wk.istoreN (pc' := 31) (Ls' := #[.val (rf hB (H.length + 0)), .val (.int (3 : Int32)), .val (.int (2 : Int32)), .val (.int (3 : Int32))]) d21_30 rfl rfl ?_
  refine Wk.aloadN (pc' := 32) d21_31 rfl rfl rfl ?_
  refine Wk.aloadN (pc' := 33) d21_32 rfl rfl rfl ?_
  refine Wk.getF0 (pc' := 36) (i := (H.length + 0)) (j := 1) d21_33 (wd56 hw) (Wk.gaB rfl) rfl rfl rfl ?_
  refine Wk.iloadN (pc' := 37) d21_36 rfl rfl ?_
  refine Wk.callS (pc' := 40) (argsL := [(rf hB (H.length + 2)), (.int (3 : Int32))]) (st := [(rf hB (H.length + 0))]) d21_37 (wd152 hw) (wd153 hw) (wd154 hw) (wd155 hw) (by decide) (lenOf pd_4 rfl) (m_cp2_2 l Z a0 hw hB H mr mM b0 b1 E0 E1) rfl (Nat.le_of_ble_eq_true rfl) (Nat.le_of_ble_eq_true rfl) (by first | (simp only [List.length_append, List.length_cons, List.length_nil] <;> omega) | (simp <;> omega) | simp) (Nat.le_of_ble_eq_true rfl) rfl rfl ?_
  rintro _ _ ⟨rfl, hH⟩; obtain rfl := hH.symm
  show WP l Z hB _ _ _ _ _ _ _ _ (H ++ [obj "java/util/ArrayList" ksAL [(.int (3 : Int32)), (rf hB (H.length + 2)), (.int (2 : Int32))], arr (.object "java/lang/Object") [(.ref b0)], arr (.object "java/lang/Object") [(.ref b0), (.ref b1)], arr (.object "java/lang/Object") [(.ref b0), (.ref b1), .null]]) _ _ [(rf hB (H.length + 3)), (rf hB (H.length + 0))]
  refine Wk.dupX1 (pc' := 41) d21_40 rfl rfl rfl ?_
  refine Wk.putF0 (pc' := 44) (i := (H.length + 0)) (j := 1) (H' := (H ++ [obj "java/util/ArrayList" ksAL [(.int (3 : Int32)), (rf hB (H.length + 3)), (.int (2 : Int32))], arr (.object "java/lang/Object") [(.ref b0)], arr (.object "java/lang/Object") [(.ref b0), (.ref b1)], arr (.object "java/lang/Object") [(.ref b0), (.ref b1), .null]])) (ty := (.array (.object "java/lang/Object"))) d21_41 (wd56 hw) (Wk.gaB rfl) rfl (Nat.le_of_ble_eq_true rfl) (Or.inl (wd57 hw)) (wd34 hw) (by decide) rfl rfl Wk.saB rfl ?_
  exact Wk.aret (t := (.array (.object "java/lang/Object"))) d21_44 rfl rfl rfl (by first | (simp only [List.length_append, List.length_cons, List.length_nil] <;> omega) | (simp <;> omega) | simp) (Nat.le_of_ble_eq_true rfl) ⟨rfl, rfl⟩
set_option maxRecDepth 65536 in
set_option maxHeartbeats 40000000 in
theorem m_gr_2 (l : Launch) (Z : State) (a0 : Array Value) (hw : ∀ d ∈ tables_1, d.before a0 Z = true) (hB : Heap) (H : List Rec) (mr : Addr) (mM : Mir Z "[Ljava/lang/Object;" mr) (b0 b1 : Addr) (E0 : Exa Z hB b0 "java/lang/Integer") (E1 : Exa Z hB b1 "java/lang/Integer") : Ctr l Z hB ({ cls := "java/util/ArrayList", name := "grow", desc := "()[Ljava/lang/Object;" } : Jvm.MethodName) jdk_38_method_7_code 1 (some (.array (.object "java/lang/Object"))) [] ({ frames := 4, cells := 1, slots := 3, locals := 62 } : Room) #[(rf hB (H.length + 0))] (H ++ [obj "java/util/ArrayList" ksAL [(.int (3 : Int32)), (rf hB (H.length + 2)), (.int (2 : Int32))], arr (.object "java/lang/Object") [(.ref b0)], arr (.object "java/lang/Object") [(.ref b0), (.ref b1)]]) (fun v H' => v = some (rf hB (H.length + 3)) ∧ H' = (H ++ [obj "java/util/ArrayList" ksAL [(.int (3 : Int32)), (rf hB (H.length + 3)), (.int (2 : Int32))], arr (.object "java/lang/Object") [(.ref b0)], arr (.object "java/lang/Object") [(.ref b0), (.ref b1)], arr (.object "java/lang/Object") [(.ref b0), (.ref b1), .null]])) := by
  refine Wk.ctr pn_15 (Ls := #[.val (rf hB (H.length + 0))]) (fun m => by first | rfl | (simp [entryFrame, mkF, argsToLocals, Value.category]; done)) ?_
  refine Wk.aloadN (pc' := 1) d20_0 rfl rfl rfl ?_
  refine Wk.aloadN (pc' := 2) d20_1 rfl rfl rfl ?_
  refine Wk.getF0 (pc' := 5) (i := (H.length + 0)) (j := 2) d20_2 (wd76 hw) (Wk.gaB rfl) rfl rfl rfl ?_
  refine Wk.iconst (pc' := 6) (1 : Int32) d20_5 (by decide) rfl ?_
  refine Wk.iadd (pc' := 7) d20_6 rfl ?_
  refine Wk.callP (pc' := 10) (argsL := [(.int (3 : Int32))]) (st := []) d20_7 (wd138 hw) (wd139 hw) (wd141 hw) (wd140 hw) (wd35 hw) (wd142 hw) (by decide) (lenOf pd_5 rfl) (fun _ P => P.exa (Wk.gaB rfl)) (m_gri_2 l Z a0 hw hB H mr mM b0 b1 E0 E1) rfl (Nat.le_of_ble_eq_true rfl) (Nat.le_of_ble_eq_true rfl) (by first | (simp only [List.length_append, List.length_cons, List.length_nil] <;> omega) | (simp <;> omega) | simp) (Nat.le_of_ble_eq_true rfl) rfl rfl ?_
  rintro _ _ ⟨rfl, hH⟩; obtain rfl := hH.symm
  show WP l Z hB _ _ _ _ _ _ _ _ (H ++ [obj "java/util/ArrayList" ksAL [(.int (3 : Int32)), (rf hB (H.length + 3)), (.int (2 : Int32))], arr (.object "java/lang/Object") [(.ref b0)], arr (.object "java/lang/Object") [(.ref b0), (.ref b1)], arr (.object "java/lang/Object") [(.ref b0), (.ref b1), .null]]) _ _ [(rf hB (H.length + 3))]
  exact Wk.aret (t := (.array (.object "java/lang/Object"))) d20_10 rfl rfl rfl (by first | (simp only [List.length_append, List.length_cons, List.length_nil] <;> omega) | (simp <;> omega) | simp) (Nat.le_of_ble_eq_true rfl) ⟨rfl, rfl⟩
set_option maxRecDepth 65536 in
set_option maxHeartbeats 40000000 in
theorem m_cp3_3 (l : Launch) (Z : State) (a0 : Array Value) (hw : ∀ d ∈ tables_1, d.before a0 Z = true) (hB : Heap) (H : List Rec) (mr : Addr) (mM : Mir Z "[Ljava/lang/Object;" mr) (b0 b1 b2 : Addr) (E0 : Exa Z hB b0 "java/lang/Integer") (E1 : Exa Z hB b1 "java/lang/Integer") (E2 : Exa Z hB b2 "java/lang/Integer") : Ctr l Z hB ({ cls := "java/util/Arrays", name := "copyOf", desc := "([Ljava/lang/Object;ILjava/lang/Class;)[Ljava/lang/Object;" } : Jvm.MethodName) jdk_65_method_120_code 4 (some (.array (.object "java/lang/Object"))) [] ({ frames := 1, cells := 1, slots := 4, locals := 18 } : Room) #[(rf hB (H.length + 3)), (.int (4 : Int32)), (.ref mr)] (H ++ [obj "java/util/ArrayList" ksAL [(.int (4 : Int32)), (rf hB (H.length + 3)), (.int (3 : Int32))], arr (.object "java/lang/Object") [(.ref b0)], arr (.object "java/lang/Object") [(.ref b0), (.ref b1)], arr (.object "java/lang/Object") [(.ref b0), (.ref b1), (.ref b2)]]) (fun v H' => v = some (rf hB (H.length + 4)) ∧ H' = (H ++ [obj "java/util/ArrayList" ksAL [(.int (4 : Int32)), (rf hB (H.length + 3)), (.int (3 : Int32))], arr (.object "java/lang/Object") [(.ref b0)], arr (.object "java/lang/Object") [(.ref b0), (.ref b1)], arr (.object "java/lang/Object") [(.ref b0), (.ref b1), (.ref b2)], arr (.object "java/lang/Object") [(.ref b0), (.ref b1), (.ref b2), .null]])) := by
  refine Wk.ctr pn_12 (Ls := #[.val (rf hB (H.length + 3)), .val (.int (4 : Int32)), .val (.ref mr), .unset]) (fun m => by first | rfl | (simp [entryFrame, mkF, argsToLocals, Value.category]; done)) ?_
  refine Wk.aloadN (pc' := 1) d25_0 rfl rfl rfl ?_
  refine Wk.ldcMir (pc' := 3) d25_1 (wd165 hw) mM rfl ?_
  refine Wk.acN (pc' := 6) d25_3 rfl rfl (XT.aa_ne_f rfl) rfl ?_
  refine Wk.iloadN (pc' := 7) d25_6 rfl rfl ?_
  refine Wk.newRef (pc' := 10) (C := "java/lang/Object") (i := (H.length + 4)) (nn := 4) (H' := (H ++ [obj "java/util/ArrayList" ksAL [(.int (4 : Int32)), (rf hB (H.length + 3)), (.int (3 : Int32))], arr (.object "java/lang/Object") [(.ref b0)], arr (.object "java/lang/Object") [(.ref b0), (.ref b1)], arr (.object "java/lang/Object") [(.ref b0), (.ref b1), (.ref b2)], arr (.object "java/lang/Object") [.null, .null, .null, .null]])) d25_7 (wd166 hw) (wd55 hw) (by decide) (by decide) (by omega) (by first | (simp only [List.length_append, List.length_cons, List.length_nil] <;> omega) | (simp <;> omega) | simp) (Nat.le_of_ble_eq_true rfl) (List.append_assoc _ _ _) (by simp) rfl ?_
  refine Wk.goTo (pc' := 24) d25_10 (by decide) (by decide) ?_
  refine Wk.astoreN (pc' := 25) (Ls' := #[.val (rf hB (H.length + 3)), .val (.int (4 : Int32)), .val (.ref mr), .val (rf hB (H.length + 4))]) d25_24 rfl rfl rfl ?_
  refine Wk.aloadN (pc' := 26) d25_25 rfl rfl rfl ?_
  refine Wk.iconst (pc' := 27) (0 : Int32) d25_26 (by decide) rfl ?_
  refine Wk.aloadN (pc' := 28) d25_27 rfl rfl rfl ?_
  refine Wk.iconst (pc' := 29) (0 : Int32) d25_28 (by decide) rfl ?_
  refine Wk.aloadN (pc' := 30) d25_29 rfl rfl rfl ?_
  refine Wk.arrLen (pc' := 31) (i := (H.length + 3)) (z := (3 : Int32)) d25_30 (Wk.gaB rfl) (by rfl) rfl ?_
  refine Wk.iloadN (pc' := 32) d25_31 rfl rfl ?_
  refine Wk.callS (pc' := 35) (argsL := [(.int (3 : Int32)), (.int (4 : Int32))]) (st := [(.int (0 : Int32)), (rf hB (H.length + 4)), (.int (0 : Int32)), (rf hB (H.length + 3))]) d25_32 (wd167 hw) (wd168 hw) (wd149 hw) (wd169 hw) (by decide) (lenOf pd_1 rfl) (m_min l Z a0 hw hB (H ++ [obj "java/util/ArrayList" ksAL [(.int (4 : Int32)), (rf hB (H.length + 3)), (.int (3 : Int32))], arr (.object "java/lang/Object") [(.ref b0)], arr (.object "java/lang/Object") [(.ref b0), (.ref b1)], arr (.object "java/lang/Object") [(.ref b0), (.ref b1), (.ref b2)], arr (.object "java/lang/Object") [.null, .null, .null, .null]]) (3 : Int32) (4 : Int32)) rfl (Nat.le_of_ble_eq_true rfl) (Nat.le_of_ble_eq_true rfl) (by first | (simp only [List.length_append, List.length_cons, List.length_nil] <;> omega) | (simp <;> omega) | simp) (Nat.le_of_ble_eq_true rfl) rfl rfl ?_
  rintro _ _ ⟨rfl, hH⟩; obtain rfl := hH.symm; rw [show mnI (3 : Int32) (4 : Int32) = (3 : Int32) from by decide]
  show WP l Z hB _ _ _ _ _ _ _ _ (H ++ [obj "java/util/ArrayList" ksAL [(.int (4 : Int32)), (rf hB (H.length + 3)), (.int (3 : Int32))], arr (.object "java/lang/Object") [(.ref b0)], arr (.object "java/lang/Object") [(.ref b0), (.ref b1)], arr (.object "java/lang/Object") [(.ref b0), (.ref b1), (.ref b2)], arr (.object "java/lang/Object") [.null, .null, .null, .null]]) _ _ [(.int (3 : Int32)), (.int (0 : Int32)), (rf hB (H.length + 4)), (.int (0 : Int32)), (rf hB (H.length + 3))]
  refine Wk.arraycopy (pc' := 38) (t := .object "java/lang/Object") (t' := .object "java/lang/Object") (i := (H.length + 4)) (vs := [(.ref b0), (.ref b1), (.ref b2)]) (us := [(.ref b0), (.ref b1), (.ref b2)]) (z := ([(.ref b0), (.ref b1), (.ref b2)] : List Value).length.toInt32) (dv := .null) (spn := 0) (dpn := 0) (n := 3) (H' := (H ++ [obj "java/util/ArrayList" ksAL [(.int (4 : Int32)), (rf hB (H.length + 3)), (.int (3 : Int32))], arr (.object "java/lang/Object") [(.ref b0)], arr (.object "java/lang/Object") [(.ref b0), (.ref b1)], arr (.object "java/lang/Object") [(.ref b0), (.ref b1), (.ref b2)], arr (.object "java/lang/Object") [(.ref b0), (.ref b1), (.ref b2), .null]])) d25_35 (wd170 hw) (wd173 hw) (wd171 hw) (wd172 hw) (fun _ P => P.arv (vs := [(.ref b0), (.ref b1), (.ref b2)]) (Wk.gaB rfl) (Nat.le_of_ble_eq_true rfl) .null) (Wk.gaB rfl) (Or.inr ⟨rfl, rfl, fun _ P => ⟨Wk.stoO P (Wk.gaB rfl) (Ins.of_exa (E0.ext P.toExt) (wd83 hw)), Wk.stoO P (Wk.gaB rfl) (Ins.of_exa (E1.ext P.toExt) (wd83 hw)), Wk.stoO P (Wk.gaB rfl) (Ins.of_exa (E2.ext P.toExt) (wd83 hw)), trivial⟩⟩) (by decide) (by decide) (by decide) (by decide) (by decide) (by decide) (Nat.le_of_ble_eq_true rfl) (Nat.le_of_ble_eq_true rfl) (Nat.le_of_ble_eq_true rfl) rfl rfl (by decide) (Nat.le_of_ble_eq_true rfl) Wk.saB rfl ?_
  refine Wk.aloadN (pc' := 39) d25_38 rfl rfl rfl ?_
  exact Wk.aret (t := (.array (.object "java/lang/Object"))) d25_39 rfl rfl rfl (by first | (simp only [List.length_append, List.length_cons, List.length_nil] <;> omega) | (simp <;> omega) | simp) (Nat.le_of_ble_eq_true rfl) ⟨rfl, rfl⟩
set_option maxRecDepth 65536 in
set_option maxHeartbeats 40000000 in
theorem m_cp2_3 (l : Launch) (Z : State) (a0 : Array Value) (hw : ∀ d ∈ tables_1, d.before a0 Z = true) (hB : Heap) (H : List Rec) (mr : Addr) (mM : Mir Z "[Ljava/lang/Object;" mr) (b0 b1 b2 : Addr) (E0 : Exa Z hB b0 "java/lang/Integer") (E1 : Exa Z hB b1 "java/lang/Integer") (E2 : Exa Z hB b2 "java/lang/Integer") : Ctr l Z hB ({ cls := "java/util/Arrays", name := "copyOf", desc := "([Ljava/lang/Object;I)[Ljava/lang/Object;" } : Jvm.MethodName) jdk_65_method_119_code 2 (some (.array (.object "java/lang/Object"))) [] ({ frames := 2, cells := 1, slots := 4, locals := 33 } : Room) #[(rf hB (H.length + 3)), (.int (4 : Int32))] (H ++ [obj "java/util/ArrayList" ksAL [(.int (4 : Int32)), (rf hB (H.length + 3)), (.int (3 : Int32))], arr (.object "java/lang/Object") [(.ref b0)], arr (.object "java/lang/Object") [(.ref b0), (.ref b1)], arr (.object "java/lang/Object") [(.ref b0), (.ref b1), (.ref b2)]]) (fun v H' => v = some (rf hB (H.length + 4)) ∧ H' = (H ++ [obj "java/util/ArrayList" ksAL [(.int (4 : Int32)), (rf hB (H.length + 3)), (.int (3 : Int32))], arr (.object "java/lang/Object") [(.ref b0)], arr (.object "java/lang/Object") [(.ref b0), (.ref b1)], arr (.object "java/lang/Object") [(.ref b0), (.ref b1), (.ref b2)], arr (.object "java/lang/Object") [(.ref b0), (.ref b1), (.ref b2), .null]])) := by
  refine Wk.ctr pn_13 (Ls := #[.val (rf hB (H.length + 3)), .val (.int (4 : Int32))]) (fun m => by first | rfl | (simp [entryFrame, mkF, argsToLocals, Value.category]; done)) ?_
  refine Wk.aloadN (pc' := 1) d24_0 rfl rfl rfl ?_
  refine Wk.iloadN (pc' := 2) d24_1 rfl rfl ?_
  refine Wk.aloadN (pc' := 3) d24_2 rfl rfl rfl ?_
  refine Wk.getCls (pc' := 6) (C := "[Ljava/lang/Object;") (mr := mr) d24_3 (wd156 hw) (wd157 hw) (Wk.nfSel (wd159 hw)) (wd159 hw) (wd158 hw) (wd160 hw) (fun _ P => P.exaA (Wk.gaB rfl) rfl) mM rfl (Nat.le_of_ble_eq_true rfl) (by show 2 + (nativeFrameWords "java/lang/Object" "getClass" 1 + 11) ≤ _; decide) rfl ?_
  refine Wk.callS (pc' := 9) (argsL := [(rf hB (H.length + 3)), (.int (4 : Int32)), (.ref mr)]) (st := []) d24_6 (wd162 hw) (wd163 hw) (wd154 hw) (wd164 hw) (by decide) (lenOf pd_2 rfl) (m_cp3_3 l Z a0 hw hB H mr mM b0 b1 b2 E0 E1 E2) rfl (Nat.le_of_ble_eq_true rfl) (Nat.le_of_ble_eq_true rfl) (by first | (simp only [List.length_append, List.length_cons, List.length_nil] <;> omega) | (simp <;> omega) | simp) (Nat.le_of_ble_eq_true rfl) rfl rfl ?_
  rintro _ _ ⟨rfl, hH⟩; obtain rfl := hH.symm
  show WP l Z hB _ _ _ _ _ _ _ _ (H ++ [obj "java/util/ArrayList" ksAL [(.int (4 : Int32)), (rf hB (H.length + 3)), (.int (3 : Int32))], arr (.object "java/lang/Object") [(.ref b0)], arr (.object "java/lang/Object") [(.ref b0), (.ref b1)], arr (.object "java/lang/Object") [(.ref b0), (.ref b1), (.ref b2)], arr (.object "java/lang/Object") [(.ref b0), (.ref b1), (.ref b2), .null]]) _ _ [(rf hB (H.length + 4))]
  exact Wk.aret (t := (.array (.object "java/lang/Object"))) d24_9 rfl rfl rfl (by first | (simp only [List.length_append, List.length_cons, List.length_nil] <;> omega) | (simp <;> omega) | simp) (Nat.le_of_ble_eq_true rfl) ⟨rfl, rfl⟩
set_option maxRecDepth 65536 in
set_option maxHeartbeats 40000000 in
theorem m_gri_3 (l : Launch) (Z : State) (a0 : Array Value) (hw : ∀ d ∈ tables_1, d.before a0 Z = true) (hB : Heap) (H : List Rec) (mr : Addr) (mM : Mir Z "[Ljava/lang/Object;" mr) (b0 b1 b2 : Addr) (E0 : Exa Z hB b0 "java/lang/Integer") (E1 : Exa Z hB b1 "java/lang/Integer") (E2 : Exa Z hB b2 "java/lang/Integer") : Ctr l Z hB ({ cls := "java/util/ArrayList", name := "grow", desc := "(I)[Ljava/lang/Object;" } : Jvm.MethodName) jdk_38_method_6_code 4 (some (.array (.object "java/lang/Object"))) [] ({ frames := 3, cells := 1, slots := 4, locals := 47 } : Room) #[(rf hB (H.length + 0)), (.int (4 : Int32))] (H ++ [obj "java/util/ArrayList" ksAL [(.int (4 : Int32)), (rf hB (H.length + 3)), (.int (3 : Int32))], arr (.object "java/lang/Object") [(.ref b0)], arr (.object "java/lang/Object") [(.ref b0), (.ref b1)], arr (.object "java/lang/Object") [(.ref b0), (.ref b1), (.ref b2)]]) (fun v H' => v = some (rf hB (H.length + 4)) ∧ H' = (H ++ [obj "java/util/ArrayList" ksAL [(.int (4 : Int32)), (rf hB (H.length + 4)), (.int (3 : Int32))], arr (.object "java/lang/Object") [(.ref b0)], arr (.object "java/lang/Object") [(.ref b0), (.ref b1)], arr (.object "java/lang/Object") [(.ref b0), (.ref b1), (.ref b2)], arr (.object "java/lang/Object") [(.ref b0), (.ref b1), (.ref b2), .null]])) := by
  refine Wk.ctr pn_14 (Ls := #[.val (rf hB (H.length + 0)), .val (.int (4 : Int32)), .unset, .unset]) (fun m => by first | rfl | (simp [entryFrame, mkF, argsToLocals, Value.category]; done)) ?_
  refine Wk.aloadN (pc' := 1) d21_0 rfl rfl rfl ?_
  refine Wk.getF0 (pc' := 4) (i := (H.length + 0)) (j := 1) d21_1 (wd56 hw) (Wk.gaB rfl) rfl rfl rfl ?_
  refine Wk.arrLen (pc' := 5) (i := (H.length + 3)) (z := (3 : Int32)) d21_4 (Wk.gaB rfl) (by rfl) rfl ?_
  refine Wk.istoreN (pc' := 6) (Ls' := #[.val (rf hB (H.length + 0)), .val (.int (4 : Int32)), .val (.int (3 : Int32)), .unset]) d21_5 rfl rfl ?_
  refine Wk.iloadN (pc' := 7) d21_6 rfl rfl ?_
  refine Wk.ifY (pc' := 20) d21_7 (XT.i0_gt_t (by decide)) (by decide) (by decide) ?_
  refine Wk.iloadN (pc' := 21) d21_20 rfl rfl ?_
  refine Wk.iloadN (pc' := 22) d21_21 rfl rfl ?_
  refine Wk.iloadN (pc' := 23) d21_22 rfl rfl ?_
  refine Wk.isub (pc' := 24) d21_23 rfl ?_
  refine Wk.iloadN (pc' := 25) d21_24 rfl rfl ?_
  refine Wk.iconst (pc' := 26) (1 : Int32) d21_25 (by decide) rfl ?_
  refine Wk.ishr (pc' := 27) d21_26 rfl ?_
  rw [show ((3 : Int32) >>> ((1 : Int32) &&& 31)) = (1 : Int32) from by decide]
  refine Wk.callS (pc' := 30) (argsL := [(.int (3 : Int32)), (.int (1 : Int32)), (.int (1 : Int32))]) (st := []) d21_27 (wd143 hw) (wd144 hw) (wd145 hw) (wd146 hw) (by decide) (lenOf pd_3 rfl) (m_nl3 l Z a0 hw hB (H ++ [obj "java/util/ArrayList" ksAL [(.int (4 : Int32)), (rf hB (H.length + 3)), (.int (3 : Int32))], arr (.object "java/lang/Object") [(.ref b0)], arr (.object "java/lang/Object") [(.ref b0), (.ref b1)], arr (.object "java/lang/Object") [(.ref b0), (.ref b1), (.ref b2)]])) rfl (Nat.le_of_ble_eq_true rfl) (Nat.le_of_ble_eq_true rfl) (by first | (simp only [List.length_append, List.length_cons, List.length_nil] <;> omega) | (simp <;> omega) | simp) (Nat.le_of_ble_eq_true rfl) rfl rfl ?_
  rintro _ _ ⟨rfl, hH⟩; obtain rfl := hH.symm
  show WP l Z hB _ _ _ _ _ _ _ _ (H ++ [obj "java/util/ArrayList" ksAL [(.int (4 : Int32)), (rf hB (H.length + 3)), (.int (3 : Int32))], arr (.object "java/lang/Object") [(.ref b0)], arr (.object "java/lang/Object") [(.ref b0), (.ref b1)], arr (.object "java/lang/Object") [(.ref b0), (.ref b1), (.ref b2)]]) _ _ [(.int (4 : Int32))]
  refine Wk.istoreN (pc' := 31) (Ls' := #[.val (rf hB (H.length + 0)), .val (.int (4 : Int32)), .val (.int (3 : Int32)), .val (.int (4 : Int32))]) d21_30 rfl rfl ?_
  refine Wk.aloadN (pc' := 32) d21_31 rfl rfl rfl ?_
  refine Wk.aloadN (pc' := 33) d21_32 rfl rfl rfl ?_
  refine Wk.getF0 (pc' := 36) (i := (H.length + 0)) (j := 1) d21_33 (wd56 hw) (Wk.gaB rfl) rfl rfl rfl ?_
  refine Wk.iloadN (pc' := 37) d21_36 rfl rfl ?_
  refine Wk.callS (pc' := 40) (argsL := [(rf hB (H.length + 3)), (.int (4 : Int32))]) (st := [(rf hB (H.length + 0))]) d21_37 (wd152 hw) (wd153 hw) (wd154 hw) (wd155 hw) (by decide) (lenOf pd_4 rfl) (m_cp2_3 l Z a0 hw hB H mr mM b0 b1 b2 E0 E1 E2) rfl (Nat.le_of_ble_eq_true rfl) (Nat.le_of_ble_eq_true rfl) (by first | (simp only [List.length_append, List.length_cons, List.length_nil] <;> omega) | (simp <;> omega) | simp) (Nat.le_of_ble_eq_true rfl) rfl rfl ?_
  rintro _ _ ⟨rfl, hH⟩; obtain rfl := hH.symm
  show WP l Z hB _ _ _ _ _ _ _ _ (H ++ [obj "java/util/ArrayList" ksAL [(.int (4 : Int32)), (rf hB (H.length + 3)), (.int (3 : Int32))], arr (.object "java/lang/Object") [(.ref b0)], arr (.object "java/lang/Object") [(.ref b0), (.ref b1)], arr (.object "java/lang/Object") [(.ref b0), (.ref b1), (.ref b2)], arr (.object "java/lang/Object") [(.ref b0), (.ref b1), (.ref b2), .null]]) _ _ [(rf hB (H.length + 4)), (rf hB (H.length + 0))]
  refine Wk.dupX1 (pc' := 41) d21_40 rfl rfl rfl ?_
  refine Wk.putF0 (pc' := 44) (i := (H.length + 0)) (j := 1) (H' := (H ++ [obj "java/util/ArrayList" ksAL [(.int (4 : Int32)), (rf hB (H.length + 4)), (.int (3 : Int32))], arr (.object "java/lang/Object") [(.ref b0)], arr (.object "java/lang/Object") [(.ref b0), (.ref b1)], arr (.object "java/lang/Object") [(.ref b0), (.ref b1), (.ref b2)], arr (.object "java/lang/Object") [(.ref b0), (.ref b1), (.ref b2), .null]])) (ty := (.array (.object "java/lang/Object"))) d21_41 (wd56 hw) (Wk.gaB rfl) rfl (Nat.le_of_ble_eq_true rfl) (Or.inl (wd57 hw)) (wd34 hw) (by decide) rfl rfl Wk.saB rfl ?_
  exact Wk.aret (t := (.array (.object "java/lang/Object"))) d21_44 rfl rfl rfl (by first | (simp only [List.length_append, List.length_cons, List.length_nil] <;> omega) | (simp <;> omega) | simp) (Nat.le_of_ble_eq_true rfl) ⟨rfl, rfl⟩
set_option maxRecDepth 65536 in
set_option maxHeartbeats 40000000 in
theorem m_gr_3 (l : Launch) (Z : State) (a0 : Array Value) (hw : ∀ d ∈ tables_1, d.before a0 Z = true) (hB : Heap) (H : List Rec) (mr : Addr) (mM : Mir Z "[Ljava/lang/Object;" mr) (b0 b1 b2 : Addr) (E0 : Exa Z hB b0 "java/lang/Integer") (E1 : Exa Z hB b1 "java/lang/Integer") (E2 : Exa Z hB b2 "java/lang/Integer") : Ctr l Z hB ({ cls := "java/util/ArrayList", name := "grow", desc := "()[Ljava/lang/Object;" } : Jvm.MethodName) jdk_38_method_7_code 1 (some (.array (.object "java/lang/Object"))) [] ({ frames := 4, cells := 1, slots := 4, locals := 62 } : Room) #[(rf hB (H.length + 0))] (H ++ [obj "java/util/ArrayList" ksAL [(.int (4 : Int32)), (rf hB (H.length + 3)), (.int (3 : Int32))], arr (.object "java/lang/Object") [(.ref b0)], arr (.object "java/lang/Object") [(.ref b0), (.ref b1)], arr (.object "java/lang/Object") [(.ref b0), (.ref b1), (.ref b2)]]) (fun v H' => v = some (rf hB (H.length + 4)) ∧ H' = (H ++ [obj "java/util/ArrayList" ksAL [(.int (4 : Int32)), (rf hB (H.length + 4)), (.int (3 : Int32))], arr (.object "java/lang/Object") [(.ref b0)], arr (.object "java/lang/Object") [(.ref b0), (.ref b1)], arr (.object "java/lang/Object") [(.ref b0), (.ref b1), (.ref b2)], arr (.object "java/lang/Object") [(.ref b0), (.ref b1), (.ref b2), .null]])) := by
  refine Wk.ctr pn_15 (Ls := #[.val (rf hB (H.length + 0))]) (fun m => by first | rfl | (simp [entryFrame, mkF, argsToLocals, Value.category]; done)) ?_
  refine Wk.aloadN (pc' := 1) d20_0 rfl rfl rfl ?_
  refine Wk.aloadN (pc' := 2) d20_1 rfl rfl rfl ?_
  refine Wk.getF0 (pc' := 5) (i := (H.length + 0)) (j := 2) d20_2 (wd76 hw) (Wk.gaB rfl) rfl rfl rfl ?_
  refine Wk.iconst (pc' := 6) (1 : Int32) d20_5 (by decide) rfl ?_
  refine Wk.iadd (pc' := 7) d20_6 rfl ?_
  refine Wk.callP (pc' := 10) (argsL := [(.int (4 : Int32))]) (st := []) d20_7 (wd138 hw) (wd139 hw) (wd141 hw) (wd140 hw) (wd35 hw) (wd142 hw) (by decide) (lenOf pd_5 rfl) (fun _ P => P.exa (Wk.gaB rfl)) (m_gri_3 l Z a0 hw hB H mr mM b0 b1 b2 E0 E1 E2) rfl (Nat.le_of_ble_eq_true rfl) (Nat.le_of_ble_eq_true rfl) (by first | (simp only [List.length_append, List.length_cons, List.length_nil] <;> omega) | (simp <;> omega) | simp) (Nat.le_of_ble_eq_true rfl) rfl rfl ?_
  rintro _ _ ⟨rfl, hH⟩; obtain rfl := hH.symm
  show WP l Z hB _ _ _ _ _ _ _ _ (H ++ [obj "java/util/ArrayList" ksAL [(.int (4 : Int32)), (rf hB (H.length + 4)), (.int (3 : Int32))], arr (.object "java/lang/Object") [(.ref b0)], arr (.object "java/lang/Object") [(.ref b0), (.ref b1)], arr (.object "java/lang/Object") [(.ref b0), (.ref b1), (.ref b2)], arr (.object "java/lang/Object") [(.ref b0), (.ref b1), (.ref b2), .null]]) _ _ [(rf hB (H.length + 4))]
  exact Wk.aret (t := (.array (.object "java/lang/Object"))) d20_10 rfl rfl rfl (by first | (simp only [List.length_append, List.length_cons, List.length_nil] <;> omega) | (simp <;> omega) | simp) (Nat.le_of_ble_eq_true rfl) ⟨rfl, rfl⟩
set_option maxRecDepth 65536 in
set_option maxHeartbeats 40000000 in
theorem m_ad3_0 (l : Launch) (Z : State) (a0 : Array Value) (hw : ∀ d ∈ tables_1, d.before a0 Z = true) (hB : Heap) (H : List Rec)  (b0 : Addr) (E0 : Exa Z hB b0 "java/lang/Integer") : Ctr l Z hB ({ cls := "java/util/ArrayList", name := "add", desc := "(Ljava/lang/Object;[Ljava/lang/Object;I)V" } : Jvm.MethodName) jdk_38_method_24_code 4 none [] ({ frames := 0, cells := 0, slots := 0, locals := 0 } : Room) #[(rf hB (H.length + 0)), (.ref b0), (rf hB (H.length + 1)), (.int (0 : Int32))] (H ++ [obj "java/util/ArrayList" ksAL [(.int (1 : Int32)), (rf hB (H.length + 1)), (.int (0 : Int32))], arr (.object "java/lang/Object") [.null]]) (fun v H' => v = none ∧ H' = (H ++ [obj "java/util/ArrayList" ksAL [(.int (1 : Int32)), (rf hB (H.length + 1)), (.int (1 : Int32))], arr (.object "java/lang/Object") [(.ref b0)]])) := by
  refine Wk.ctr pn_16 (Ls := #[.val (rf hB (H.length + 0)), .val (.ref b0), .val (rf hB (H.length + 1)), .val (.int (0 : Int32))]) (fun m => by first | rfl | (simp [entryFrame, mkF, argsToLocals, Value.category]; done)) ?_
  refine Wk.iloadN (pc' := 1) d10_0 rfl rfl ?_
  refine Wk.aloadN (pc' := 2) d10_1 rfl rfl rfl ?_
  refine Wk.arrLen (pc' := 3) (i := (H.length + 1)) (z := (1 : Int32)) d10_2 (Wk.gaB rfl) (by rfl) rfl ?_
  refine Wk.icY (pc' := 11) d10_3 (XT.ii_ne_t (by decide)) (by decide) (by decide) ?_
  refine Wk.aloadN (pc' := 12) d10_11 rfl rfl rfl ?_
  refine Wk.iloadN (pc' := 13) d10_12 rfl rfl ?_
  refine Wk.aloadN (pc' := 14) d10_13 rfl rfl rfl ?_
  refine Wk.aastore (pc' := 15) (i := (H.length + 1)) (jn := 0) (H' := (H ++ [obj "java/util/ArrayList" ksAL [(.int (1 : Int32)), (rf hB (H.length + 1)), (.int (0 : Int32))], arr (.object "java/lang/Object") [(.ref b0)]])) d10_14 (Wk.gaB rfl) rfl (fun _ P => Wk.stoO P (Wk.gaB rfl) (Ins.of_exa ((E0).ext P.toExt) (wd83 hw))) rfl (by decide) (by decide) (Nat.le_of_ble_eq_true rfl) Wk.saB rfl ?_
  refine Wk.aloadN (pc' := 16) d10_15 rfl rfl rfl ?_
  refine Wk.iloadN (pc' := 17) d10_16 rfl rfl ?_
  refine Wk.iconst (pc' := 18) (1 : Int32) d10_17 (by decide) rfl ?_
  refine Wk.iadd (pc' := 19) d10_18 rfl ?_
  refine Wk.putF0 (pc' := 22) (i := (H.length + 0)) (j := 2) (H' := (H ++ [obj "java/util/ArrayList" ksAL [(.int (1 : Int32)), (rf hB (H.length + 1)), (.int (1 : Int32))], arr (.object "java/lang/Object") [(.ref b0)]])) (ty := .int) d10_19 (wd76 hw) (Wk.gaB rfl) rfl (Nat.le_of_ble_eq_true rfl) (Or.inl (wd77 hw)) (wd34 hw) (by decide) rfl rfl Wk.saB rfl ?_
  exact Wk.vret d10_22 rfl (by first | (simp only [List.length_append, List.length_cons, List.length_nil] <;> omega) | (simp <;> omega) | simp) (Nat.le_of_ble_eq_true rfl) ⟨rfl, rfl⟩
set_option maxRecDepth 65536 in
set_option maxHeartbeats 40000000 in
theorem m_add_0 (l : Launch) (Z : State) (a0 : Array Value) (hw : ∀ d ∈ tables_1, d.before a0 Z = true) (hB : Heap) (H : List Rec)  (b0 : Addr) (E0 : Exa Z hB b0 "java/lang/Integer") : Ctr l Z hB ({ cls := "java/util/ArrayList", name := "add", desc := "(Ljava/lang/Object;)Z" } : Jvm.MethodName) jdk_38_method_25_code 2 (some .boolean) [] ({ frames := 1, cells := 0, slots := 0, locals := 15 } : Room) #[(rf hB (H.length + 0)), (.ref b0)] (H ++ [obj "java/util/ArrayList" ksAL [(.int (0 : Int32)), (rf hB (H.length + 1)), (.int (0 : Int32))], arr (.object "java/lang/Object") [.null]]) (fun v H' => v = some (.int 1) ∧ H' = (H ++ [obj "java/util/ArrayList" ksAL [(.int (1 : Int32)), (rf hB (H.length + 1)), (.int (1 : Int32))], arr (.object "java/lang/Object") [(.ref b0)]])) := by
  refine Wk.ctr pn_17 (Ls := #[.val (rf hB (H.length + 0)), .val (.ref b0)]) (fun m => by first | rfl | (simp [entryFrame, mkF, argsToLocals, Value.category]; done)) ?_
  refine Wk.aloadN (pc' := 1) d9_0 rfl rfl rfl ?_
  refine Wk.dup (pc' := 2) d9_1 rfl rfl ?_
  refine Wk.getF1 (pc' := 5) (i := (H.length + 0)) (j := 0) d9_2 (wd74 hw) (wd75 hw) (Wk.gaB rfl) rfl rfl rfl ?_
  refine Wk.iconst (pc' := 6) (1 : Int32) d9_5 (by decide) rfl ?_
  refine Wk.iadd (pc' := 7) d9_6 rfl ?_
  refine Wk.putF1 (pc' := 10) (i := (H.length + 0)) (j := 0) (H' := (H ++ [obj "java/util/ArrayList" ksAL [(.int (1 : Int32)), (rf hB (H.length + 1)), (.int (0 : Int32))], arr (.object "java/lang/Object") [.null]])) (ty := .int) d9_7 (wd74 hw) (wd75 hw) (Wk.gaB rfl) rfl (Nat.le_of_ble_eq_true rfl) (Or.inl (wd53 hw)) (wd34 hw) (by decide) rfl rfl Wk.saB rfl ?_
  refine Wk.aloadN (pc' := 11) d9_10 rfl rfl rfl ?_
  refine Wk.aloadN (pc' := 12) d9_11 rfl rfl rfl ?_
  refine Wk.aloadN (pc' := 13) d9_12 rfl rfl rfl ?_
  refine Wk.getF0 (pc' := 16) (i := (H.length + 0)) (j := 1) d9_13 (wd56 hw) (Wk.gaB rfl) rfl rfl rfl ?_
  refine Wk.aloadN (pc' := 17) d9_16 rfl rfl rfl ?_
  refine Wk.getF0 (pc' := 20) (i := (H.length + 0)) (j := 2) d9_17 (wd76 hw) (Wk.gaB rfl) rfl rfl rfl ?_
  refine Wk.callP (pc' := 23) (argsL := [(.ref b0), (rf hB (H.length + 1)), (.int (0 : Int32))]) (st := []) d9_20 (wd78 hw) (wd79 hw) (wd81 hw) (wd80 hw) (wd35 hw) (wd82 hw) (by decide) (lenOf pd_6 rfl) (fun _ P => P.exa (Wk.gaB rfl)) (m_ad3_0 l Z a0 hw hB H b0 E0) rfl (Nat.le_of_ble_eq_true rfl) (Nat.le_of_ble_eq_true rfl) (by first | (simp only [List.length_append, List.length_cons, List.length_nil] <;> omega) | (simp <;> omega) | simp) (Nat.le_of_ble_eq_true rfl) rfl rfl ?_
  rintro _ _ ⟨rfl, hH⟩; obtain rfl := hH.symm
  show WP l Z hB _ _ _ _ _ _ _ _ (H ++ [obj "java/util/ArrayList" ksAL [(.int (1 : Int32)), (rf hB (H.length + 1)), (.int (1 : Int32))], arr (.object "java/lang/Object") [(.ref b0)]]) _ _ []
  refine Wk.iconst (pc' := 24) (1 : Int32) d9_23 (by decide) rfl ?_
  exact Wk.iret (t := .boolean) d9_24 rfl (by simp) rfl (by first | (simp only [List.length_append, List.length_cons, List.length_nil] <;> omega) | (simp <;> omega) | simp) (Nat.le_of_ble_eq_true rfl) ⟨rfl, rfl⟩
set_option maxRecDepth 65536 in
set_option maxHeartbeats 40000000 in
theorem m_ad3_1 (l : Launch) (Z : State) (a0 : Array Value) (hw : ∀ d ∈ tables_1, d.before a0 Z = true) (hB : Heap) (H : List Rec) (mr : Addr) (mM : Mir Z "[Ljava/lang/Object;" mr) (b0 b1 : Addr) (E0 : Exa Z hB b0 "java/lang/Integer") (E1 : Exa Z hB b1 "java/lang/Integer") : Ctr l Z hB ({ cls := "java/util/ArrayList", name := "add", desc := "(Ljava/lang/Object;[Ljava/lang/Object;I)V" } : Jvm.MethodName) jdk_38_method_24_code 4 none [] ({ frames := 5, cells := 1, slots := 2, locals := 74 } : Room) #[(rf hB (H.length + 0)), (.ref b1), (rf hB (H.length + 1)), (.int (1 : Int32))] (H ++ [obj "java/util/ArrayList" ksAL [(.int (2 : Int32)), (rf hB (H.length + 1)), (.int (1 : Int32))], arr (.object "java/lang/Object") [(.ref b0)]]) (fun v H' => v = none ∧ H' = (H ++ [obj "java/util/ArrayList" ksAL [(.int (2 : Int32)), (rf hB (H.length + 2)), (.int (2 : Int32))], arr (.object "java/lang/Object") [(.ref b0)], arr (.object "java/lang/Object") [(.ref b0), (.ref b1)]])) := by
  refine Wk.ctr pn_16 (Ls := #[.val (rf hB (H.length + 0)), .val (.ref b1), .val (rf hB (H.length + 1)), .val (.int (1 : Int32))]) (fun m => by first | rfl | (simp [entryFrame, mkF, argsToLocals, Value.category]; done)) ?_
  refine Wk.iloadN (pc' := 1) d10_0 rfl rfl ?_
  refine Wk.aloadN (pc' := 2) d10_1 rfl rfl rfl ?_
  refine Wk.arrLen (pc' := 3) (i := (H.length + 1)) (z := (1 : Int32)) d10_2 (Wk.gaB rfl) (by rfl) rfl ?_
  refine Wk.icN (pc' := 6) d10_3 (XT.ii_ne_f rfl) rfl ?_
  refine Wk.aloadN (pc' := 7) d10_6 rfl rfl rfl ?_
  refine Wk.callP (pc' := 10) (argsL := []) (st := []) d10_7 (wd133 hw) (wd134 hw) (wd136 hw) (wd135 hw) (wd35 hw) (wd137 hw) (by decide) (lenOf pd_7 rfl) (fun _ P => P.exa (Wk.gaB rfl)) (m_gr_1 l Z a0 hw hB H mr mM b0 E0) rfl (Nat.le_of_ble_eq_true rfl) (Nat.le_of_ble_eq_true rfl) (by first | (simp only [List.length_append, List.length_cons, List.length_nil] <;> omega) | (simp <;> omega) | simp) (Nat.le_of_ble_eq_true rfl) rfl rfl ?_
  rintro _ _ ⟨rfl, hH⟩; obtain rfl := hH.symm
  show WP l Z hB _ _ _ _ _ _ _ _ (H ++ [obj "java/util/ArrayList" ksAL [(.int (2 : Int32)), (rf hB (H.length + 2)), (.int (1 : Int32))], arr (.object "java/lang/Object") [(.ref b0)], arr (.object "java/lang/Object") [(.ref b0), .null]]) _ _ [(rf hB (H.length + 2))]
  refine Wk.astoreN (pc' := 11) (Ls' := #[.val (rf hB (H.length + 0)), .val (.ref b1), .val (rf hB (H.length + 2)), .val (.int (1 : Int32))]) d10_10 rfl rfl rfl ?_
  refine Wk.aloadN (pc' := 12) d10_11 rfl rfl rfl ?_
  refine Wk.iloadN (pc' := 13) d10_12 rfl rfl ?_
  refine Wk.aloadN (pc' := 14) d10_13 rfl rfl rfl ?_
  refine Wk.aastore (pc' := 15) (i := (H.length + 2)) (jn := 1) (H' := (H ++ [obj "java/util/ArrayList" ksAL [(.int (2 : Int32)), (rf hB (H.length + 2)), (.int (1 : Int32))], arr (.object "java/lang/Object") [(.ref b0)], arr (.object "java/lang/Object") [(.ref b0), (.ref b1)]])) d10_14 (Wk.gaB rfl) rfl (fun _ P => Wk.stoO P (Wk.gaB rfl) (Ins.of_exa ((E1).ext P.toExt) (wd83 hw))) rfl (by decide) (by decide) (Nat.le_of_ble_eq_true rfl) Wk.saB rfl ?_
  refine Wk.aloadN (pc' := 16) d10_15 rfl rfl rfl ?_
  refine Wk.iloadN (pc' := 17) d10_16 rfl rfl ?_
  refine Wk.iconst (pc' := 18) (1 : Int32) d10_17 (by decide) rfl ?_
  refine Wk.iadd (pc' := 19) d10_18 rfl ?_
  refine Wk.putF0 (pc' := 22) (i := (H.length + 0)) (j := 2) (H' := (H ++ [obj "java/util/ArrayList" ksAL [(.int (2 : Int32)), (rf hB (H.length + 2)), (.int (2 : Int32))], arr (.object "java/lang/Object") [(.ref b0)], arr (.object "java/lang/Object") [(.ref b0), (.ref b1)]])) (ty := .int) d10_19 (wd76 hw) (Wk.gaB rfl) rfl (Nat.le_of_ble_eq_true rfl) (Or.inl (wd77 hw)) (wd34 hw) (by decide) rfl rfl Wk.saB rfl ?_
  exact Wk.vret d10_22 rfl (by first | (simp only [List.length_append, List.length_cons, List.length_nil] <;> omega) | (simp <;> omega) | simp) (Nat.le_of_ble_eq_true rfl) ⟨rfl, rfl⟩
set_option maxRecDepth 65536 in
set_option maxHeartbeats 40000000 in
theorem m_add_1 (l : Launch) (Z : State) (a0 : Array Value) (hw : ∀ d ∈ tables_1, d.before a0 Z = true) (hB : Heap) (H : List Rec) (mr : Addr) (mM : Mir Z "[Ljava/lang/Object;" mr) (b0 b1 : Addr) (E0 : Exa Z hB b0 "java/lang/Integer") (E1 : Exa Z hB b1 "java/lang/Integer") : Ctr l Z hB ({ cls := "java/util/ArrayList", name := "add", desc := "(Ljava/lang/Object;)Z" } : Jvm.MethodName) jdk_38_method_25_code 2 (some .boolean) [] ({ frames := 6, cells := 1, slots := 2, locals := 89 } : Room) #[(rf hB (H.length + 0)), (.ref b1)] (H ++ [obj "java/util/ArrayList" ksAL [(.int (1 : Int32)), (rf hB (H.length + 1)), (.int (1 : Int32))], arr (.object "java/lang/Object") [(.ref b0)]]) (fun v H' => v = some (.int 1) ∧ H' = (H ++ [obj "java/util/ArrayList" ksAL [(.int (2 : Int32)), (rf hB (H.length + 2)), (.int (2 : Int32))], arr (.object "java/lang/Object") [(.ref b0)], arr (.object "java/lang/Object") [(.ref b0), (.ref b1)]])) := by
  refine Wk.ctr pn_17 (Ls := #[.val (rf hB (H.length + 0)), .val (.ref b1)]) (fun m => by first | rfl | (simp [entryFrame, mkF, argsToLocals, Value.category]; done)) ?_
  refine Wk.aloadN (pc' := 1) d9_0 rfl rfl rfl ?_
  refine Wk.dup (pc' := 2) d9_1 rfl rfl ?_
  refine Wk.getF1 (pc' := 5) (i := (H.length + 0)) (j := 0) d9_2 (wd74 hw) (wd75 hw) (Wk.gaB rfl) rfl rfl rfl ?_
  refine Wk.iconst (pc' := 6) (1 : Int32) d9_5 (by decide) rfl ?_
  refine Wk.iadd (pc' := 7) d9_6 rfl ?_
  refine Wk.putF1 (pc' := 10) (i := (H.length + 0)) (j := 0) (H' := (H ++ [obj "java/util/ArrayList" ksAL [(.int (2 : Int32)), (rf hB (H.length + 1)), (.int (1 : Int32))], arr (.object "java/lang/Object") [(.ref b0)]])) (ty := .int) d9_7 (wd74 hw) (wd75 hw) (Wk.gaB rfl) rfl (Nat.le_of_ble_eq_true rfl) (Or.inl (wd53 hw)) (wd34 hw) (by decide) rfl rfl Wk.saB rfl ?_
  refine Wk.aloadN (pc' := 11) d9_10 rfl rfl rfl ?_
  refine Wk.aloadN (pc' := 12) d9_11 rfl rfl rfl ?_
  refine Wk.aloadN (pc' := 13) d9_12 rfl rfl rfl ?_
  refine Wk.getF0 (pc' := 16) (i := (H.length + 0)) (j := 1) d9_13 (wd56 hw) (Wk.gaB rfl) rfl rfl rfl ?_
  refine Wk.aloadN (pc' := 17) d9_16 rfl rfl rfl ?_
  refine Wk.getF0 (pc' := 20) (i := (H.length + 0)) (j := 2) d9_17 (wd76 hw) (Wk.gaB rfl) rfl rfl rfl ?_
  refine Wk.callP (pc' := 23) (argsL := [(.ref b1), (rf hB (H.length + 1)), (.int (1 : Int32))]) (st := []) d9_20 (wd78 hw) (wd79 hw) (wd81 hw) (wd80 hw) (wd35 hw) (wd82 hw) (by decide) (lenOf pd_6 rfl) (fun _ P => P.exa (Wk.gaB rfl)) (m_ad3_1 l Z a0 hw hB H mr mM b0 b1 E0 E1) rfl (Nat.le_of_ble_eq_true rfl) (Nat.le_of_ble_eq_true rfl) (by first | (simp only [List.length_append, List.length_cons, List.length_nil] <;> omega) | (simp <;> omega) | simp) (Nat.le_of_ble_eq_true rfl) rfl rfl ?_
  rintro _ _ ⟨rfl, hH⟩; obtain rfl := hH.symm
  show WP l Z hB _ _ _ _ _ _ _ _ (H ++ [obj "java/util/ArrayList" ksAL [(.int (2 : Int32)), (rf hB (H.length + 2)), (.int (2 : Int32))], arr (.object "java/lang/Object") [(.ref b0)], arr (.object "java/lang/Object") [(.ref b0), (.ref b1)]]) _ _ []
  refine Wk.iconst (pc' := 24) (1 : Int32) d9_23 (by decide) rfl ?_
  exact Wk.iret (t := .boolean) d9_24 rfl (by simp) rfl (by first | (simp only [List.length_append, List.length_cons, List.length_nil] <;> omega) | (simp <;> omega) | simp) (Nat.le_of_ble_eq_true rfl) ⟨rfl, rfl⟩
set_option maxRecDepth 65536 in
set_option maxHeartbeats 40000000 in
theorem m_ad3_2 (l : Launch) (Z : State) (a0 : Array Value) (hw : ∀ d ∈ tables_1, d.before a0 Z = true) (hB : Heap) (H : List Rec) (mr : Addr) (mM : Mir Z "[Ljava/lang/Object;" mr) (b0 b1 b2 : Addr) (E0 : Exa Z hB b0 "java/lang/Integer") (E1 : Exa Z hB b1 "java/lang/Integer") (E2 : Exa Z hB b2 "java/lang/Integer") : Ctr l Z hB ({ cls := "java/util/ArrayList", name := "add", desc := "(Ljava/lang/Object;[Ljava/lang/Object;I)V" } : Jvm.MethodName) jdk_38_method_24_code 4 none [] ({ frames := 5, cells := 1, slots := 3, locals := 74 } : Room) #[(rf hB (H.length + 0)), (.ref b2), (rf hB (H.length + 2)), (.int (2 : Int32))] (H ++ [obj "java/util/ArrayList" ksAL [(.int (3 : Int32)), (rf hB (H.length + 2)), (.int (2 : Int32))], arr (.object "java/lang/Object") [(.ref b0)], arr (.object "java/lang/Object") [(.ref b0), (.ref b1)]]) (fun v H' => v = none ∧ H' = (H ++ [obj "java/util/ArrayList" ksAL [(.int (3 : Int32)), (rf hB (H.length + 3)), (.int (3 : Int32))], arr (.object "java/lang/Object") [(.ref b0)], arr (.object "java/lang/Object") [(.ref b0), (.ref b1)], arr (.object "java/lang/Object") [(.ref b0), (.ref b1), (.ref b2)]])) := by
  refine Wk.ctr pn_16 (Ls := #[.val (rf hB (H.length + 0)), .val (.ref b2), .val (rf hB (H.length + 2)), .val (.int (2 : Int32))]) (fun m => by first | rfl | (simp [entryFrame, mkF, argsToLocals, Value.category]; done)) ?_
  refine Wk.iloadN (pc' := 1) d10_0 rfl rfl ?_
  refine Wk.aloadN (pc' := 2) d10_1 rfl rfl rfl ?_
  refine Wk.arrLen (pc' := 3) (i := (H.length + 2)) (z := (2 : Int32)) d10_2 (Wk.gaB rfl) (by rfl) rfl ?_
  refine Wk.icN (pc' := 6) d10_3 (XT.ii_ne_f rfl) rfl ?_
  refine Wk.aloadN (pc' := 7) d10_6 rfl rfl rfl ?_
  refine Wk.callP (pc' := 10) (argsL := []) (st := []) d10_7 (wd133 hw) (wd134 hw) (wd136 hw) (wd135 hw) (wd35 hw) (wd137 hw) (by decide) (lenOf pd_7 rfl) (fun _ P => P.exa (Wk.gaB rfl)) (m_gr_2 l Z a0 hw hB H mr mM b0 b1 E0 E1) rfl (Nat.le_of_ble_eq_true rfl) (Nat.le_of_ble_eq_true rfl) (by first | (simp only [List.length_append, List.length_cons, List.length_nil] <;> omega) | (simp <;> omega) | simp) (Nat.le_of_ble_eq_true rfl) rfl rfl ?_
  rintro _ _ ⟨rfl, hH⟩; obtain rfl := hH.symm
  show WP l Z hB _ _ _ _ _ _ _ _ (H ++ [obj "java/util/ArrayList" ksAL [(.int (3 : Int32)), (rf hB (H.length + 3)), (.int (2 : Int32))], arr (.object "java/lang/Object") [(.ref b0)], arr (.object "java/lang/Object") [(.ref b0), (.ref b1)], arr (.object "java/lang/Object") [(.ref b0), (.ref b1), .null]]) _ _ [(rf hB (H.length + 3))]
  refine Wk.astoreN (pc' := 11) (Ls' := #[.val (rf hB (H.length + 0)), .val (.ref b2), .val (rf hB (H.length + 3)), .val (.int (2 : Int32))]) d10_10 rfl rfl rfl ?_
  refine Wk.aloadN (pc' := 12) d10_11 rfl rfl rfl ?_
  refine Wk.iloadN (pc' := 13) d10_12 rfl rfl ?_
  refine Wk.aloadN (pc' := 14) d10_13 rfl rfl rfl ?_
  refine Wk.aastore (pc' := 15) (i := (H.length + 3)) (jn := 2) (H' := (H ++ [obj "java/util/ArrayList" ksAL [(.int (3 : Int32)), (rf hB (H.length + 3)), (.int (2 : Int32))], arr (.object "java/lang/Object") [(.ref b0)], arr (.object "java/lang/Object") [(.ref b0), (.ref b1)], arr (.object "java/lang/Object") [(.ref b0), (.ref b1), (.ref b2)]])) d10_14 (Wk.gaB rfl) rfl (fun _ P => Wk.stoO P (Wk.gaB rfl) (Ins.of_exa ((E2).ext P.toExt) (wd83 hw))) rfl (by decide) (by decide) (Nat.le_of_ble_eq_true rfl) Wk.saB rfl ?_
  refine Wk.aloadN (pc' := 16) d10_15 rfl rfl rfl ?_
  refine Wk.iloadN (pc' := 17) d10_16 rfl rfl ?_
  refine Wk.iconst (pc' := 18) (1 : Int32) d10_17 (by decide) rfl ?_
  refine Wk.iadd (pc' := 19) d10_18 rfl ?_
  refine Wk.putF0 (pc' := 22) (i := (H.length + 0)) (j := 2) (H' := (H ++ [obj "java/util/ArrayList" ksAL [(.int (3 : Int32)), (rf hB (H.length + 3)), (.int (3 : Int32))], arr (.object "java/lang/Object") [(.ref b0)], arr (.object "java/lang/Object") [(.ref b0), (.ref b1)], arr (.object "java/lang/Object") [(.ref b0), (.ref b1), (.ref b2)]])) (ty := .int) d10_19 (wd76 hw) (Wk.gaB rfl) rfl (Nat.le_of_ble_eq_true rfl) (Or.inl (wd77 hw)) (wd34 hw) (by decide) rfl rfl Wk.saB rfl ?_
  exact Wk.vret d10_22 rfl (by first | (simp only [List.length_append, List.length_cons, List.length_nil] <;> omega) | (simp <;> omega) | simp) (Nat.le_of_ble_eq_true rfl) ⟨rfl, rfl⟩
set_option maxRecDepth 65536 in
set_option maxHeartbeats 40000000 in
theorem m_add_2 (l : Launch) (Z : State) (a0 : Array Value) (hw : ∀ d ∈ tables_1, d.before a0 Z = true) (hB : Heap) (H : List Rec) (mr : Addr) (mM : Mir Z "[Ljava/lang/Object;" mr) (b0 b1 b2 : Addr) (E0 : Exa Z hB b0 "java/lang/Integer") (E1 : Exa Z hB b1 "java/lang/Integer") (E2 : Exa Z hB b2 "java/lang/Integer") : Ctr l Z hB ({ cls := "java/util/ArrayList", name := "add", desc := "(Ljava/lang/Object;)Z" } : Jvm.MethodName) jdk_38_method_25_code 2 (some .boolean) [] ({ frames := 6, cells := 1, slots := 3, locals := 89 } : Room) #[(rf hB (H.length + 0)), (.ref b2)] (H ++ [obj "java/util/ArrayList" ksAL [(.int (2 : Int32)), (rf hB (H.length + 2)), (.int (2 : Int32))], arr (.object "java/lang/Object") [(.ref b0)], arr (.object "java/lang/Object") [(.ref b0), (.ref b1)]]) (fun v H' => v = some (.int 1) ∧ H' = (H ++ [obj "java/util/ArrayList" ksAL [(.int (3 : Int32)), (rf hB (H.length + 3)), (.int (3 : Int32))], arr (.object "java/lang/Object") [(.ref b0)], arr (.object "java/lang/Object") [(.ref b0), (.ref b1)], arr (.object "java/lang/Object") [(.ref b0), (.ref b1), (.ref b2)]])) := by
  refine Wk.ctr pn_17 (Ls := #[.val (rf hB (H.length + 0)), .val (.ref b2)]) (fun m => by first | rfl | (simp [entryFrame, mkF, argsToLocals, Value.category]; done)) ?_
  refine Wk.aloadN (pc' := 1) d9_0 rfl rfl rfl ?_
  refine Wk.dup (pc' := 2) d9_1 rfl rfl ?_
  refine Wk.getF1 (pc' := 5) (i := (H.length + 0)) (j := 0) d9_2 (wd74 hw) (wd75 hw) (Wk.gaB rfl) rfl rfl rfl ?_
  refine Wk.iconst (pc' := 6) (1 : Int32) d9_5 (by decide) rfl ?_
  refine Wk.iadd (pc' := 7) d9_6 rfl ?_
  refine Wk.putF1 (pc' := 10) (i := (H.length + 0)) (j := 0) (H' := (H ++ [obj "java/util/ArrayList" ksAL [(.int (3 : Int32)), (rf hB (H.length + 2)), (.int (2 : Int32))], arr (.object "java/lang/Object") [(.ref b0)], arr (.object "java/lang/Object") [(.ref b0), (.ref b1)]])) (ty := .int) d9_7 (wd74 hw) (wd75 hw) (Wk.gaB rfl) rfl (Nat.le_of_ble_eq_true rfl) (Or.inl (wd53 hw)) (wd34 hw) (by decide) rfl rfl Wk.saB rfl ?_
  refine Wk.aloadN (pc' := 11) d9_10 rfl rfl rfl ?_
  refine Wk.aloadN (pc' := 12) d9_11 rfl rfl rfl ?_
  refine Wk.aloadN (pc' := 13) d9_12 rfl rfl rfl ?_
  refine Wk.getF0 (pc' := 16) (i := (H.length + 0)) (j := 1) d9_13 (wd56 hw) (Wk.gaB rfl) rfl rfl rfl ?_
  refine Wk.aloadN (pc' := 17) d9_16 rfl rfl rfl ?_
  refine Wk.getF0 (pc' := 20) (i := (H.length + 0)) (j := 2) d9_17 (wd76 hw) (Wk.gaB rfl) rfl rfl rfl ?_
  refine Wk.callP (pc' := 23) (argsL := [(.ref b2), (rf hB (H.length + 2)), (.int (2 : Int32))]) (st := []) d9_20 (wd78 hw) (wd79 hw) (wd81 hw) (wd80 hw) (wd35 hw) (wd82 hw) (by decide) (lenOf pd_6 rfl) (fun _ P => P.exa (Wk.gaB rfl)) (m_ad3_2 l Z a0 hw hB H mr mM b0 b1 b2 E0 E1 E2) rfl (Nat.le_of_ble_eq_true rfl) (Nat.le_of_ble_eq_true rfl) (by first | (simp only [List.length_append, List.length_cons, List.length_nil] <;> omega) | (simp <;> omega) | simp) (Nat.le_of_ble_eq_true rfl) rfl rfl ?_
  rintro _ _ ⟨rfl, hH⟩; obtain rfl := hH.symm
  show WP l Z hB _ _ _ _ _ _ _ _ (H ++ [obj "java/util/ArrayList" ksAL [(.int (3 : Int32)), (rf hB (H.length + 3)), (.int (3 : Int32))], arr (.object "java/lang/Object") [(.ref b0)], arr (.object "java/lang/Object") [(.ref b0), (.ref b1)], arr (.object "java/lang/Object") [(.ref b0), (.ref b1), (.ref b2)]]) _ _ []
  refine Wk.iconst (pc' := 24) (1 : Int32) d9_23 (by decide) rfl ?_
  exact Wk.iret (t := .boolean) d9_24 rfl (by simp) rfl (by first | (simp only [List.length_append, List.length_cons, List.length_nil] <;> omega) | (simp <;> omega) | simp) (Nat.le_of_ble_eq_true rfl) ⟨rfl, rfl⟩
set_option maxRecDepth 65536 in
set_option maxHeartbeats 40000000 in
theorem m_ad3_3 (l : Launch) (Z : State) (a0 : Array Value) (hw : ∀ d ∈ tables_1, d.before a0 Z = true) (hB : Heap) (H : List Rec) (mr : Addr) (mM : Mir Z "[Ljava/lang/Object;" mr) (b0 b1 b2 b3 : Addr) (E0 : Exa Z hB b0 "java/lang/Integer") (E1 : Exa Z hB b1 "java/lang/Integer") (E2 : Exa Z hB b2 "java/lang/Integer") (E3 : Exa Z hB b3 "java/lang/Integer") : Ctr l Z hB ({ cls := "java/util/ArrayList", name := "add", desc := "(Ljava/lang/Object;[Ljava/lang/Object;I)V" } : Jvm.MethodName) jdk_38_method_24_code 4 none [] ({ frames := 5, cells := 1, slots := 4, locals := 74 } : Room) #[(rf hB (H.length + 0)), (.ref b3), (rf hB (H.length + 3)), (.int (3 : Int32))] (H ++ [obj "java/util/ArrayList" ksAL [(.int (4 : Int32)), (rf hB (H.length + 3)), (.int (3 : Int32))], arr (.object "java/lang/Object") [(.ref b0)], arr (.object "java/lang/Object") [(.ref b0), (.ref b1)], arr (.object "java/lang/Object") [(.ref b0), (.ref b1), (.ref b2)]]) (fun v H' => v = none ∧ H' = (H ++ [obj "java/util/ArrayList" ksAL [(.int (4 : Int32)), (rf hB (H.length + 4)), (.int (4 : Int32))], arr (.object "java/lang/Object") [(.ref b0)], arr (.object "java/lang/Object") [(.ref b0), (.ref b1)], arr (.object "java/lang/Object") [(.ref b0), (.ref b1), (.ref b2)], arr (.object "java/lang/Object") [(.ref b0), (.ref b1), (.ref b2), (.ref b3)]])) := by
  refine Wk.ctr pn_16 (Ls := #[.val (rf hB (H.length + 0)), .val (.ref b3), .val (rf hB (H.length + 3)), .val (.int (3 : Int32))]) (fun m => by first | rfl | (simp [entryFrame, mkF, argsToLocals, Value.category]; done)) ?_
  refine Wk.iloadN (pc' := 1) d10_0 rfl rfl ?_
  refine Wk.aloadN (pc' := 2) d10_1 rfl rfl rfl ?_
  refine Wk.arrLen (pc' := 3) (i := (H.length + 3)) (z := (3 : Int32)) d10_2 (Wk.gaB rfl) (by rfl) rfl ?_
  refine Wk.icN (pc' := 6) d10_3 (XT.ii_ne_f rfl) rfl ?_
  refine Wk.aloadN (pc' := 7) d10_6 rfl rfl rfl ?_
  refine Wk.callP (pc' := 10) (argsL := []) (st := []) d10_7 (wd133 hw) (wd134 hw) (wd136 hw) (wd135 hw) (wd35 hw) (wd137 hw) (by decide) (lenOf pd_7 rfl) (fun _ P => P.exa (Wk.gaB rfl)) (m_gr_3 l Z a0 hw hB H mr mM b0 b1 b2 E0 E1 E2) rfl (Nat.le_of_ble_eq_true rfl) (Nat.le_of_ble_eq_true rfl) (by first | (simp only [List.length_append, List.length_cons, List.length_nil] <;> omega) | (simp <;> omega) | simp) (Nat.le_of_ble_eq_true rfl) rfl rfl ?_
  rintro _ _ ⟨rfl, hH⟩; obtain rfl := hH.symm
  show WP l Z hB _ _ _ _ _ _ _ _ (H ++ [obj "java/util/ArrayList" ksAL [(.int (4 : Int32)), (rf hB (H.length + 4)), (.int (3 : Int32))], arr (.object "java/lang/Object") [(.ref b0)], arr (.object "java/lang/Object") [(.ref b0), (.ref b1)], arr (.object "java/lang/Object") [(.ref b0), (.ref b1), (.ref b2)], arr (.object "java/lang/Object") [(.ref b0), (.ref b1), (.ref b2), .null]]) _ _ [(rf hB (H.length + 4))]
  refine Wk.astoreN (pc' := 11) (Ls' := #[.val (rf hB (H.length + 0)), .val (.ref b3), .val (rf hB (H.length + 4)), .val (.int (3 : Int32))]) d10_10 rfl rfl rfl ?_
  refine Wk.aloadN (pc' := 12) d10_11 rfl rfl rfl ?_
  refine Wk.iloadN (pc' := 13) d10_12 rfl rfl ?_
  refine Wk.aloadN (pc' := 14) d10_13 rfl rfl rfl ?_
  refine Wk.aastore (pc' := 15) (i := (H.length + 4)) (jn := 3) (H' := (H ++ [obj "java/util/ArrayList" ksAL [(.int (4 : Int32)), (rf hB (H.length + 4)), (.int (3 : Int32))], arr (.object "java/lang/Object") [(.ref b0)], arr (.object "java/lang/Object") [(.ref b0), (.ref b1)], arr (.object "java/lang/Object") [(.ref b0), (.ref b1), (.ref b2)], arr (.object "java/lang/Object") [(.ref b0), (.ref b1), (.ref b2), (.ref b3)]])) d10_14 (Wk.gaB rfl) rfl (fun _ P => Wk.stoO P (Wk.gaB rfl) (Ins.of_exa ((E3).ext P.toExt) (wd83 hw))) rfl (by decide) (by decide) (Nat.le_of_ble_eq_true rfl) Wk.saB rfl ?_
  refine Wk.aloadN (pc' := 16) d10_15 rfl rfl rfl ?_
  refine Wk.iloadN (pc' := 17) d10_16 rfl rfl ?_
  refine Wk.iconst (pc' := 18) (1 : Int32) d10_17 (by decide) rfl ?_
  refine Wk.iadd (pc' := 19) d10_18 rfl ?_
  refine Wk.putF0 (pc' := 22) (i := (H.length + 0)) (j := 2) (H' := (H ++ [obj "java/util/ArrayList" ksAL [(.int (4 : Int32)), (rf hB (H.length + 4)), (.int (4 : Int32))], arr (.object "java/lang/Object") [(.ref b0)], arr (.object "java/lang/Object") [(.ref b0), (.ref b1)], arr (.object "java/lang/Object") [(.ref b0), (.ref b1), (.ref b2)], arr (.object "java/lang/Object") [(.ref b0), (.ref b1), (.ref b2), (.ref b3)]])) (ty := .int) d10_19 (wd76 hw) (Wk.gaB rfl) rfl (Nat.le_of_ble_eq_true rfl) (Or.inl (wd77 hw)) (wd34 hw) (by decide) rfl rfl Wk.saB rfl ?_
  exact Wk.vret d10_22 rfl (by first | (simp only [List.length_append, List.length_cons, List.length_nil] <;> omega) | (simp <;> omega) | simp) (Nat.le_of_ble_eq_true rfl) ⟨rfl, rfl⟩
set_option maxRecDepth 65536 in
set_option maxHeartbeats 40000000 in
theorem m_add_3 (l : Launch) (Z : State) (a0 : Array Value) (hw : ∀ d ∈ tables_1, d.before a0 Z = true) (hB : Heap) (H : List Rec) (mr : Addr) (mM : Mir Z "[Ljava/lang/Object;" mr) (b0 b1 b2 b3 : Addr) (E0 : Exa Z hB b0 "java/lang/Integer") (E1 : Exa Z hB b1 "java/lang/Integer") (E2 : Exa Z hB b2 "java/lang/Integer") (E3 : Exa Z hB b3 "java/lang/Integer") : Ctr l Z hB ({ cls := "java/util/ArrayList", name := "add", desc := "(Ljava/lang/Object;)Z" } : Jvm.MethodName) jdk_38_method_25_code 2 (some .boolean) [] ({ frames := 6, cells := 1, slots := 4, locals := 89 } : Room) #[(rf hB (H.length + 0)), (.ref b3)] (H ++ [obj "java/util/ArrayList" ksAL [(.int (3 : Int32)), (rf hB (H.length + 3)), (.int (3 : Int32))], arr (.object "java/lang/Object") [(.ref b0)], arr (.object "java/lang/Object") [(.ref b0), (.ref b1)], arr (.object "java/lang/Object") [(.ref b0), (.ref b1), (.ref b2)]]) (fun v H' => v = some (.int 1) ∧ H' = (H ++ [obj "java/util/ArrayList" ksAL [(.int (4 : Int32)), (rf hB (H.length + 4)), (.int (4 : Int32))], arr (.object "java/lang/Object") [(.ref b0)], arr (.object "java/lang/Object") [(.ref b0), (.ref b1)], arr (.object "java/lang/Object") [(.ref b0), (.ref b1), (.ref b2)], arr (.object "java/lang/Object") [(.ref b0), (.ref b1), (.ref b2), (.ref b3)]])) := by
  refine Wk.ctr pn_17 (Ls := #[.val (rf hB (H.length + 0)), .val (.ref b3)]) (fun m => by first | rfl | (simp [entryFrame, mkF, argsToLocals, Value.category]; done)) ?_
  refine Wk.aloadN (pc' := 1) d9_0 rfl rfl rfl ?_
  refine Wk.dup (pc' := 2) d9_1 rfl rfl ?_
  refine Wk.getF1 (pc' := 5) (i := (H.length + 0)) (j := 0) d9_2 (wd74 hw) (wd75 hw) (Wk.gaB rfl) rfl rfl rfl ?_
  refine Wk.iconst (pc' := 6) (1 : Int32) d9_5 (by decide) rfl ?_
  refine Wk.iadd (pc' := 7) d9_6 rfl ?_
  refine Wk.putF1 (pc' := 10) (i := (H.length + 0)) (j := 0) (H' := (H ++ [obj "java/util/ArrayList" ksAL [(.int (4 : Int32)), (rf hB (H.length + 3)), (.int (3 : Int32))], arr (.object "java/lang/Object") [(.ref b0)], arr (.object "java/lang/Object") [(.ref b0), (.ref b1)], arr (.object "java/lang/Object") [(.ref b0), (.ref b1), (.ref b2)]])) (ty := .int) d9_7 (wd74 hw) (wd75 hw) (Wk.gaB rfl) rfl (Nat.le_of_ble_eq_true rfl) (Or.inl (wd53 hw)) (wd34 hw) (by decide) rfl rfl Wk.saB rfl ?_
  refine Wk.aloadN (pc' := 11) d9_10 rfl rfl rfl ?_
  refine Wk.aloadN (pc' := 12) d9_11 rfl rfl rfl ?_
  refine Wk.aloadN (pc' := 13) d9_12 rfl rfl rfl ?_
  refine Wk.getF0 (pc' := 16) (i := (H.length + 0)) (j := 1) d9_13 (wd56 hw) (Wk.gaB rfl) rfl rfl rfl ?_
  refine Wk.aloadN (pc' := 17) d9_16 rfl rfl rfl ?_
  refine Wk.getF0 (pc' := 20) (i := (H.length + 0)) (j := 2) d9_17 (wd76 hw) (Wk.gaB rfl) rfl rfl rfl ?_
  refine Wk.callP (pc' := 23) (argsL := [(.ref b3), (rf hB (H.length + 3)), (.int (3 : Int32))]) (st := []) d9_20 (wd78 hw) (wd79 hw) (wd81 hw) (wd80 hw) (wd35 hw) (wd82 hw) (by decide) (lenOf pd_6 rfl) (fun _ P => P.exa (Wk.gaB rfl)) (m_ad3_3 l Z a0 hw hB H mr mM b0 b1 b2 b3 E0 E1 E2 E3) rfl (Nat.le_of_ble_eq_true rfl) (Nat.le_of_ble_eq_true rfl) (by first | (simp only [List.length_append, List.length_cons, List.length_nil] <;> omega) | (simp <;> omega) | simp) (Nat.le_of_ble_eq_true rfl) rfl rfl ?_
  rintro _ _ ⟨rfl, hH⟩; obtain rfl := hH.symm
  show WP l Z hB _ _ _ _ _ _ _ _ (H ++ [obj "java/util/ArrayList" ksAL [(.int (4 : Int32)), (rf hB (H.length + 4)), (.int (4 : Int32))], arr (.object "java/lang/Object") [(.ref b0)], arr (.object "java/lang/Object") [(.ref b0), (.ref b1)], arr (.object "java/lang/Object") [(.ref b0), (.ref b1), (.ref b2)], arr (.object "java/lang/Object") [(.ref b0), (.ref b1), (.ref b2), (.ref b3)]]) _ _ []
  refine Wk.iconst (pc' := 24) (1 : Int32) d9_23 (by decide) rfl ?_
  exact Wk.iret (t := .boolean) d9_24 rfl (by simp) rfl (by first | (simp only [List.length_append, List.length_cons, List.length_nil] <;> omega) | (simp <;> omega) | simp) (Nat.le_of_ble_eq_true rfl) ⟨rfl, rfl⟩
theorem lo128 {k : Int32} (h : ¬ k < 0) : ¬ k < -128 := by
  rw [Int32.lt_iff_toInt_lt] at *; have e0 : (0 : Int32).toInt = 0 := rfl; have e1 : (-128 : Int32).toInt = -128 := rfl; omega
theorem hi127 {k : Int32} (h : ¬ 3 < k) : ¬ 127 < k := by
  rw [Int32.lt_iff_toInt_lt] at *; have e0 : (3 : Int32).toInt = 3 := rfl; have e1 : (127 : Int32).toInt = 127 := rfl; omega
def pre (tv : Int32 → Int32) (q : Int32) : List Int32 → List Int32
  | [] => []
  | x :: xs => if q < tv x then x :: pre tv q xs else []
def Chn (o : List Int32) : Int32 → List Int32 → Prop
  | i, [] => i < 0
  | i, x :: xs => i = x ∧ ¬ x < 0 ∧ ¬ 3 < x ∧ ∃ y, Wk.gI o x = some y ∧ Chn o y xs
def IsAL (hB : Heap) (bo : Int32 → Addr) (H : List Rec) (i : Nat) (xs : List Int32) : Prop :=
  ∃ (mc : Int32) (j : Nat) (vals : List Value), H[i]? = some (obj "java/util/ArrayList" ksAL [.int mc, rf hB j, .int xs.length.toInt32]) ∧ H[j]? = some (arr (.object "java/lang/Object") vals) ∧ (∀ (k : Nat) (x : Int32), xs[k]? = some x → vals[k]? = some (.ref (bo x))) ∧ xs.length ≤ 4
theorem isAL0 (hB : Heap) (bo : Int32 → Addr) (H : List Rec)  : IsAL hB bo (H ++ [obj "java/util/ArrayList" ksAL [(.int (0 : Int32)), (rf hB (H.length + 1)), (.int (0 : Int32))], arr (.object "java/lang/Object") [.null]]) (H.length + 0) [] :=
  ⟨(0 : Int32), _, _, Wk.gaB rfl, Wk.gaB rfl, (fun k x h => by simp at h), (Nat.le_of_ble_eq_true rfl)⟩
theorem isAL1 (hB : Heap) (bo : Int32 → Addr) (H : List Rec) (x0 : Int32) : IsAL hB bo (H ++ [obj "java/util/ArrayList" ksAL [(.int (1 : Int32)), (rf hB (H.length + 1)), (.int (1 : Int32))], arr (.object "java/lang/Object") [(.ref (bo x0))]]) (H.length + 0) [x0] :=
  ⟨(1 : Int32), _, _, Wk.gaB rfl, Wk.gaB rfl, (fun k x h => match k, h with | 0, rfl => rfl | k + 1, h => by simp at h), (Nat.le_of_ble_eq_true rfl)⟩
theorem isAL2 (hB : Heap) (bo : Int32 → Addr) (H : List Rec) (x0 x1 : Int32) : IsAL hB bo (H ++ [obj "java/util/ArrayList" ksAL [(.int (2 : Int32)), (rf hB (H.length + 2)), (.int (2 : Int32))], arr (.object "java/lang/Object") [(.ref (bo x0))], arr (.object "java/lang/Object") [(.ref (bo x0)), (.ref (bo x1))]]) (H.length + 0) [x0, x1] :=
  ⟨(2 : Int32), _, _, Wk.gaB rfl, Wk.gaB rfl, (fun k x h => match k, h with | 0, rfl => rfl | 1, rfl => rfl | k + 2, h => by simp at h), (Nat.le_of_ble_eq_true rfl)⟩
theorem isAL3 (hB : Heap) (bo : Int32 → Addr) (H : List Rec) (x0 x1 x2 : Int32) : IsAL hB bo (H ++ [obj "java/util/ArrayList" ksAL [(.int (3 : Int32)), (rf hB (H.length + 3)), (.int (3 : Int32))], arr (.object "java/lang/Object") [(.ref (bo x0))], arr (.object "java/lang/Object") [(.ref (bo x0)), (.ref (bo x1))], arr (.object "java/lang/Object") [(.ref (bo x0)), (.ref (bo x1)), (.ref (bo x2))]]) (H.length + 0) [x0, x1, x2] :=
  ⟨(3 : Int32), _, _, Wk.gaB rfl, Wk.gaB rfl, (fun k x h => match k, h with | 0, rfl => rfl | 1, rfl => rfl | 2, rfl => rfl | k + 3, h => by simp at h), (Nat.le_of_ble_eq_true rfl)⟩
theorem isAL4 (hB : Heap) (bo : Int32 → Addr) (H : List Rec) (x0 x1 x2 x3 : Int32) : IsAL hB bo (H ++ [obj "java/util/ArrayList" ksAL [(.int (4 : Int32)), (rf hB (H.length + 4)), (.int (4 : Int32))], arr (.object "java/lang/Object") [(.ref (bo x0))], arr (.object "java/lang/Object") [(.ref (bo x0)), (.ref (bo x1))], arr (.object "java/lang/Object") [(.ref (bo x0)), (.ref (bo x1)), (.ref (bo x2))], arr (.object "java/lang/Object") [(.ref (bo x0)), (.ref (bo x1)), (.ref (bo x2)), (.ref (bo x3))]]) (H.length + 0) [x0, x1, x2, x3] :=
  ⟨(4 : Int32), _, _, Wk.gaB rfl, Wk.gaB rfl, (fun k x h => match k, h with | 0, rfl => rfl | 1, rfl => rfl | 2, rfl => rfl | 3, rfl => rfl | k + 4, h => by simp at h), (Nat.le_of_ble_eq_true rfl)⟩
set_option maxRecDepth 65536 in
set_option maxHeartbeats 40000000 in
theorem m_lp4 (l : Launch) (Z : State) (a0 : Array Value) (hw : ∀ d ∈ tables_1, d.before a0 Z = true) (hB : Heap) (cA : Addr) (cc : Cell) (sH : Sta Z hB "java/lang/Integer$IntegerCache" "high" "I" (.int 127)) (sC : Sta Z hB "java/lang/Integer$IntegerCache" "cache" "[Ljava/lang/Integer;" (.ref cA)) (bx : Bxs Z cA cc "java/lang/Integer" "I" 256 (fun j => .int (j - 128))) (hBZ : hB = Z.heap) (bo : Int32 → Addr) (hbo : ∀ k : Int32, ¬ k < 0 → ¬ 3 < k → ¬ (k + 128 < 0 ∨ cc.slots.size ≤ (k + 128).toNatClampNeg) ∧ cc.slots[(k + 128).toNatClampNeg]? = some (.ref (bo k)) ∧ Exa Z hB (bo k) "java/lang/Integer" ∧ Fld Z hB (bo k) "java/lang/Integer" "value" "I" (.int k)) (mr : Addr) (mM : Mir Z "[Ljava/lang/Object;" mr) (H : List Rec) (n : Int32) (o t : List Int32) (h0 : H[0]? = some (obj "com/example/dissect/dissect/RecentPlaces" ksRP [(.int n), (rf hB 1), (rf hB 2), (rf hB 3)])) (h1 : H[1]? = some (ints o)) (h3 : H[3]? = some (ints t)) (tv : Int32 → Int32) (ht : ∀ x : Int32, ¬ x < 0 → ¬ 3 < x → Wk.gI t x = some (tv x)) (q : Int32) (Q : Option Value → List Rec → Prop) (x0 x1 x2 x3 : Int32) (e0 : Exa Z hB (bo x0) "java/lang/Integer") (e1 : Exa Z hB (bo x1) "java/lang/Integer") (e2 : Exa Z hB (bo x2) "java/lang/Integer") (e3 : Exa Z hB (bo x3) "java/lang/Integer") (S : List Int32) (i : Int32) (hch : Chn o i S) (hS : S.length + 4 ≤ 4) (hQ : ∀ G : List Rec, G.length ≤ 5 → IsAL hB bo (H ++ G) (H.length + 0) ([x0, x1, x2, x3] ++ pre tv q S) → Q (some (rf hB (H.length + 0))) (H ++ G)) : WP l Z hB ({ cls := "com/example/dissect/dissect/RecentPlaces", name := "since", desc := "(I)Ljava/util/List;" } : Jvm.MethodName) prog_102_method_5_code 4 (some (.object "java/util/List")) ({ frames := 7, cells := 5, slots := 13, locals := 102 } : Room) H.length Q 13 (H ++ [obj "java/util/ArrayList" ksAL [(.int (4 : Int32)), (rf hB (H.length + 4)), (.int (4 : Int32))], arr (.object "java/lang/Object") [(.ref (bo x0))], arr (.object "java/lang/Object") [(.ref (bo x0)), (.ref (bo x1))], arr (.object "java/lang/Object") [(.ref (bo x0)), (.ref (bo x1)), (.ref (bo x2))], arr (.object "java/lang/Object") [(.ref (bo x0)), (.ref (bo x1)), (.ref (bo x2)), (.ref (bo x3))]]) 14 #[.val (rf hB 0), .val (.int q), .val (rf hB (H.length + 0)), .val (.int i)] [] := by
  cases S with
  | nil =>
    have hi : i < 0 := hch
    refine Wk.iloadN (pc' := 15) d4_14 rfl rfl ?_
    refine Wk.ifY (pc' := 49) d4_15 (XT.i0_lt_t hi) (by decide) (by decide) ?_
    refine Wk.aloadN (pc' := 50) d4_49 rfl rfl rfl ?_
    exact Wk.aret (t := (.object "java/util/List")) d4_50 rfl rfl rfl (by first | (simp only [List.length_append, List.length_cons, List.length_nil] <;> omega) | (simp <;> omega) | simp) (Nat.le_of_ble_eq_true rfl) (hQ _ (by simp) (by simpa [pre] using isAL4 hB bo H x0 x1 x2 x3))
  | cons x S =>
    simp only [List.length_cons] at hS; omega
set_option maxRecDepth 65536 in
set_option maxHeartbeats 40000000 in
theorem m_lp3 (l : Launch) (Z : State) (a0 : Array Value) (hw : ∀ d ∈ tables_1, d.before a0 Z = true) (hB : Heap) (cA : Addr) (cc : Cell) (sH : Sta Z hB "java/lang/Integer$IntegerCache" "high" "I" (.int 127)) (sC : Sta Z hB "java/lang/Integer$IntegerCache" "cache" "[Ljava/lang/Integer;" (.ref cA)) (bx : Bxs Z cA cc "java/lang/Integer" "I" 256 (fun j => .int (j - 128))) (hBZ : hB = Z.heap) (bo : Int32 → Addr) (hbo : ∀ k : Int32, ¬ k < 0 → ¬ 3 < k → ¬ (k + 128 < 0 ∨ cc.slots.size ≤ (k + 128).toNatClampNeg) ∧ cc.slots[(k + 128).toNatClampNeg]? = some (.ref (bo k)) ∧ Exa Z hB (bo k) "java/lang/Integer" ∧ Fld Z hB (bo k) "java/lang/Integer" "value" "I" (.int k)) (mr : Addr) (mM : Mir Z "[Ljava/lang/Object;" mr) (H : List Rec) (n : Int32) (o t : List Int32) (h0 : H[0]? = some (obj "com/example/dissect/dissect/RecentPlaces" ksRP [(.int n), (rf hB 1), (rf hB 2), (rf hB 3)])) (h1 : H[1]? = some (ints o)) (h3 : H[3]? = some (ints t)) (tv : Int32 → Int32) (ht : ∀ x : Int32, ¬ x < 0 → ¬ 3 < x → Wk.gI t x = some (tv x)) (q : Int32) (Q : Option Value → List Rec → Prop) (x0 x1 x2 : Int32) (e0 : Exa Z hB (bo x0) "java/lang/Integer") (e1 : Exa Z hB (bo x1) "java/lang/Integer") (e2 : Exa Z hB (bo x2) "java/lang/Integer") (S : List Int32) (i : Int32) (hch : Chn o i S) (hS : S.length + 3 ≤ 4) (hQ : ∀ G : List Rec, G.length ≤ 5 → IsAL hB bo (H ++ G) (H.length + 0) ([x0, x1, x2] ++ pre tv q S) → Q (some (rf hB (H.length + 0))) (H ++ G)) : WP l Z hB ({ cls := "com/example/dissect/dissect/RecentPlaces", name := "since", desc := "(I)Ljava/util/List;" } : Jvm.MethodName) prog_102_method_5_code 4 (some (.object "java/util/List")) ({ frames := 7, cells := 5, slots := 13, locals := 102 } : Room) H.length Q 9 (H ++ [obj "java/util/ArrayList" ksAL [(.int (3 : Int32)), (rf hB (H.length + 3)), (.int (3 : Int32))], arr (.object "java/lang/Object") [(.ref (bo x0))], arr (.object "java/lang/Object") [(.ref (bo x0)), (.ref (bo x1))], arr (.object "java/lang/Object") [(.ref (bo x0)), (.ref (bo x1)), (.ref (bo x2))]]) 14 #[.val (rf hB 0), .val (.int q), .val (rf hB (H.length + 0)), .val (.int i)] [] := by
  cases S with
  | nil =>
    have hi : i < 0 := hch
    refine Wk.iloadN (pc' := 15) d4_14 rfl rfl ?_
    refine Wk.ifY (pc' := 49) d4_15 (XT.i0_lt_t hi) (by decide) (by decide) ?_
    refine Wk.aloadN (pc' := 50) d4_49 rfl rfl rfl ?_
    exact Wk.aret (t := (.object "java/util/List")) d4_50 rfl rfl rfl (by first | (simp only [List.length_append, List.length_cons, List.length_nil] <;> omega) | (simp <;> omega) | simp) (Nat.le_of_ble_eq_true rfl) (hQ _ (by simp) (by simpa [pre] using isAL3 hB bo H x0 x1 x2))
  | cons x S =>
    obtain ⟨hix, hx0, hx3, y, hy, hch2⟩ := hch
    rw [hix]
    refine Wk.iloadN (pc' := 15) d4_14 rfl rfl ?_
    refine Wk.ifN (pc' := 18) d4_15 (XT.i0_lt_f hx0) rfl ?_
    refine Wk.aloadN (pc' := 19) d4_18 rfl rfl rfl ?_
    refine Wk.getF0 (pc' := 22) (i := 0) (j := 3) d4_19 (wd17 hw) (Wk.gaA h0) rfl rfl rfl ?_
    refine Wk.iloadN (pc' := 23) d4_22 rfl rfl ?_
    refine Wk.ialoadG (pc' := 24) (i := 3) d4_23 (Wk.gaA h3) (ht x hx0 hx3) rfl ?_
    refine Wk.iloadN (pc' := 25) d4_24 rfl rfl ?_
    by_cases hc1 : q < (tv x)
    ·
      refine Wk.icN (pc' := 28) d4_25 (XT.ii_le_f hc1) rfl ?_
      refine Wk.aloadN (pc' := 29) d4_28 rfl rfl rfl ?_
      refine Wk.iloadN (pc' := 30) d4_29 rfl rfl ?_
      refine Wk.callS (pc' := 33) (argsL := [(.int x)]) (st := [(rf hB (H.length + 0))]) d4_30 (wd58 hw) (wd59 hw) (wd60 hw) (wd61 hw) (by decide) (lenOf pd_8 rfl) (m_valOld l Z a0 hw hB (H ++ [obj "java/util/ArrayList" ksAL [(.int (3 : Int32)), (rf hB (H.length + 3)), (.int (3 : Int32))], arr (.object "java/lang/Object") [(.ref (bo x0))], arr (.object "java/lang/Object") [(.ref (bo x0)), (.ref (bo x1))], arr (.object "java/lang/Object") [(.ref (bo x0)), (.ref (bo x1)), (.ref (bo x2))]]) x (bo x) cA cc sH sC bx hBZ (lo128 hx0) (hi127 hx3) (hbo x hx0 hx3).1 (hbo x hx0 hx3).2.1) rfl (Nat.le_of_ble_eq_true rfl) (Nat.le_of_ble_eq_true rfl) (by first | (simp only [List.length_append, List.length_cons, List.length_nil] <;> omega) | (simp <;> omega) | simp) (Nat.le_of_ble_eq_true rfl) rfl rfl ?_
      rintro _ _ ⟨rfl, hH⟩; obtain rfl := hH.symm
      show WP l Z hB _ _ _ _ _ _ _ _ (H ++ [obj "java/util/ArrayList" ksAL [(.int (3 : Int32)), (rf hB (H.length + 3)), (.int (3 : Int32))], arr (.object "java/lang/Object") [(.ref (bo x0))], arr (.object "java/lang/Object") [(.ref (bo x0)), (.ref (bo x1))], arr (.object "java/lang/Object") [(.ref (bo x0)), (.ref (bo x1)), (.ref (bo x2))]]) _ _ [(.ref (bo x)), (rf hB (H.length + 0))]
      refine Wk.callF (pc' := 38) (argsL := [(.ref (bo x))]) (st := []) rfl d4_33 (wd65 hw) (wd66 hw) (wd67 hw) (wd68 hw) (wd69 hw) (wd70 hw) (wd71 hw) (wd72 hw) (wd35 hw) (wd73 hw) (by decide) (lenOf pd_9 rfl) (fun _ P => P.exa (Wk.gaB rfl)) (m_add_3 l Z a0 hw hB H mr mM (bo x0) (bo x1) (bo x2) (bo x) e0 e1 e2 (hbo x hx0 hx3).2.2.1) rfl (Nat.le_of_ble_eq_true rfl) (Nat.le_of_ble_eq_true rfl) (by first | (simp only [List.length_append, List.length_cons, List.length_nil] <;> omega) | (simp <;> omega) | simp) (Nat.le_of_ble_eq_true rfl) rfl rfl ?_
      rintro _ _ ⟨rfl, hH⟩; obtain rfl := hH.symm
      show WP l Z hB _ _ _ _ _ _ _ _ (H ++ [obj "java/util/ArrayList" ksAL [(.int (4 : Int32)), (rf hB (H.length + 4)), (.int (4 : Int32))], arr (.object "java/lang/Object") [(.ref (bo x0))], arr (.object "java/lang/Object") [(.ref (bo x0)), (.ref (bo x1))], arr (.object "java/lang/Object") [(.ref (bo x0)), (.ref (bo x1)), (.ref (bo x2))], arr (.object "java/lang/Object") [(.ref (bo x0)), (.ref (bo x1)), (.ref (bo x2)), (.ref (bo x))]]) _ _ [(.int (1 : Int32))]
      refine Wk.popV (pc' := 39) d4_38 rfl rfl ?_
      refine Wk.aloadN (pc' := 40) d4_39 rfl rfl rfl ?_
      refine Wk.getF0 (pc' := 43) (i := 0) (j := 1) d4_40 (wd13 hw) (Wk.gaA h0) rfl rfl rfl ?_
      refine Wk.iloadN (pc' := 44) d4_43 rfl rfl ?_
      refine Wk.ialoadG (pc' := 45) (i := 1) d4_44 (Wk.gaA h1) hy rfl ?_
      refine Wk.istoreN (pc' := 46) (Ls' := #[.val (rf hB 0), .val (.int q), .val (rf hB (H.length + 0)), .val (.int y)]) d4_45 rfl rfl ?_
      refine Wk.goTo (pc' := 14) d4_46 (by decide) (by decide) ?_
      exact m_lp4 l Z a0 hw hB cA cc sH sC bx hBZ bo hbo mr mM H n o t h0 h1 h3 tv ht q Q x0 x1 x2 x e0 e1 e2 (hbo x hx0 hx3).2.2.1 S y hch2 (by simp only [List.length_cons] at hS; omega) (fun G a b => hQ G a (by simpa [pre, hc1] using b))
    ·
      refine Wk.icY (pc' := 49) d4_25 (XT.ii_le_t hc1) (by decide) (by decide) ?_
      refine Wk.aloadN (pc' := 50) d4_49 rfl rfl rfl ?_
      exact Wk.aret (t := (.object "java/util/List")) d4_50 rfl rfl rfl (by first | (simp only [List.length_append, List.length_cons, List.length_nil] <;> omega) | (simp <;> omega) | simp) (Nat.le_of_ble_eq_true rfl) (hQ _ (by simp) (by simpa [pre, hc1] using isAL3 hB bo H x0 x1 x2))
set_option maxRecDepth 65536 in
set_option maxHeartbeats 40000000 in
theorem m_lp2 (l : Launch) (Z : State) (a0 : Array Value) (hw : ∀ d ∈ tables_1, d.before a0 Z = true) (hB : Heap) (cA : Addr) (cc : Cell) (sH : Sta Z hB "java/lang/Integer$IntegerCache" "high" "I" (.int 127)) (sC : Sta Z hB "java/lang/Integer$IntegerCache" "cache" "[Ljava/lang/Integer;" (.ref cA)) (bx : Bxs Z cA cc "java/lang/Integer" "I" 256 (fun j => .int (j - 128))) (hBZ : hB = Z.heap) (bo : Int32 → Addr) (hbo : ∀ k : Int32, ¬ k < 0 → ¬ 3 < k → ¬ (k + 128 < 0 ∨ cc.slots.size ≤ (k + 128).toNatClampNeg) ∧ cc.slots[(k + 128).toNatClampNeg]? = some (.ref (bo k)) ∧ Exa Z hB (bo k) "java/lang/Integer" ∧ Fld Z hB (bo k) "java/lang/Integer" "value" "I" (.int k)) (mr : Addr) (mM : Mir Z "[Ljava/lang/Object;" mr) (H : List Rec) (n : Int32) (o t : List Int32) (h0 : H[0]? = some (obj "com/example/dissect/dissect/RecentPlaces" ksRP [(.int n), (rf hB 1), (rf hB 2), (rf hB 3)])) (h1 : H[1]? = some (ints o)) (h3 : H[3]? = some (ints t)) (tv : Int32 → Int32) (ht : ∀ x : Int32, ¬ x < 0 → ¬ 3 < x → Wk.gI t x = some (tv x)) (q : Int32) (Q : Option Value → List Rec → Prop) (x0 x1 : Int32) (e0 : Exa Z hB (bo x0) "java/lang/Integer") (e1 : Exa Z hB (bo x1) "java/lang/Integer") (S : List Int32) (i : Int32) (hch : Chn o i S) (hS : S.length + 2 ≤ 4) (hQ : ∀ G : List Rec, G.length ≤ 5 → IsAL hB bo (H ++ G) (H.length + 0) ([x0, x1] ++ pre tv q S) → Q (some (rf hB (H.length + 0))) (H ++ G)) : WP l Z hB ({ cls := "com/example/dissect/dissect/RecentPlaces", name := "since", desc := "(I)Ljava/util/List;" } : Jvm.MethodName) prog_102_method_5_code 4 (some (.object "java/util/List")) ({ frames := 7, cells := 5, slots := 13, locals := 102 } : Room) H.length Q 6 (H ++ [obj "java/util/ArrayList" ksAL [(.int (2 : Int32)), (rf hB (H.length + 2)), (.int (2 : Int32))], arr (.object "java/lang/Object") [(.ref (bo x0))], arr (.object "java/lang/Object") [(.ref (bo x0)), (.ref (bo x1))]]) 14 #[.val (rf hB 0), .val (.int q), .val (rf hB (H.length + 0)), .val (.int i)] [] := by
  cases S with
  | nil =>
    have hi : i < 0 := hch
    refine Wk.iloadN (pc' := 15) d4_14 rfl rfl ?_
    refine Wk.ifY (pc' := 49) d4_15 (XT.i0_lt_t hi) (by decide) (by decide) ?_
    refine Wk.aloadN (pc' := 50) d4_49 rfl rfl rfl ?_
    exact Wk.aret (t := (.object "java/util/List")) d4_50 rfl rfl rfl (by first | (simp only [List.length_append, List.length_cons, List.length_nil] <;> omega) | (simp <;> omega) | simp) (Nat.le_of_ble_eq_true rfl) (hQ _ (by simp) (by simpa [pre] using isAL2 hB bo H x0 x1))
  | cons x S =>
    obtain ⟨hix, hx0, hx3, y, hy, hch2⟩ := hch
    rw [hix]
    refine Wk.iloadN (pc' := 15) d4_14 rfl rfl ?_
    refine Wk.ifN (pc' := 18) d4_15 (XT.i0_lt_f hx0) rfl ?_
    refine Wk.aloadN (pc' := 19) d4_18 rfl rfl rfl ?_
    refine Wk.getF0 (pc' := 22) (i := 0) (j := 3) d4_19 (wd17 hw) (Wk.gaA h0) rfl rfl rfl ?_
    refine Wk.iloadN (pc' := 23) d4_22 rfl rfl ?_
    refine Wk.ialoadG (pc' := 24) (i := 3) d4_23 (Wk.gaA h3) (ht x hx0 hx3) rfl ?_
    refine Wk.iloadN (pc' := 25) d4_24 rfl rfl ?_
    by_cases hc1 : q < (tv x)
    ·
      refine Wk.icN (pc' := 28) d4_25 (XT.ii_le_f hc1) rfl ?_
      refine Wk.aloadN (pc' := 29) d4_28 rfl rfl rfl ?_
      refine Wk.iloadN (pc' := 30) d4_29 rfl rfl ?_
      refine Wk.callS (pc' := 33) (argsL := [(.int x)]) (st := [(rf hB (H.length + 0))]) d4_30 (wd58 hw) (wd59 hw) (wd60 hw) (wd61 hw) (by decide) (lenOf pd_8 rfl) (m_valOld l Z a0 hw hB (H ++ [obj "java/util/ArrayList" ksAL [(.int (2 : Int32)), (rf hB (H.length + 2)), (.int (2 : Int32))], arr (.object "java/lang/Object") [(.ref (bo x0))], arr (.object "java/lang/Object") [(.ref (bo x0)), (.ref (bo x1))]]) x (bo x) cA cc sH sC bx hBZ (lo128 hx0) (hi127 hx3) (hbo x hx0 hx3).1 (hbo x hx0 hx3).2.1) rfl (Nat.le_of_ble_eq_true rfl) (Nat.le_of_ble_eq_true rfl) (by first | (simp only [List.length_append, List.length_cons, List.length_nil] <;> omega) | (simp <;> omega) | simp) (Nat.le_of_ble_eq_true rfl) rfl rfl ?_
      rintro _ _ ⟨rfl, hH⟩; obtain rfl := hH.symm
      show WP l Z hB _ _ _ _ _ _ _ _ (H ++ [obj "java/util/ArrayList" ksAL [(.int (2 : Int32)), (rf hB (H.length + 2)), (.int (2 : Int32))], arr (.object "java/lang/Object") [(.ref (bo x0))], arr (.object "java/lang/Object") [(.ref (bo x0)), (.ref (bo x1))]]) _ _ [(.ref (bo x)), (rf hB (H.length + 0))]
      refine Wk.callF (pc' := 38) (argsL := [(.ref (bo x))]) (st := []) rfl d4_33 (wd65 hw) (wd66 hw) (wd67 hw) (wd68 hw) (wd69 hw) (wd70 hw) (wd71 hw) (wd72 hw) (wd35 hw) (wd73 hw) (by decide) (lenOf pd_9 rfl) (fun _ P => P.exa (Wk.gaB rfl)) (m_add_2 l Z a0 hw hB H mr mM (bo x0) (bo x1) (bo x) e0 e1 (hbo x hx0 hx3).2.2.1) rfl (Nat.le_of_ble_eq_true rfl) (Nat.le_of_ble_eq_true rfl) (by first | (simp only [List.length_append, List.length_cons, List.length_nil] <;> omega) | (simp <;> omega) | simp) (Nat.le_of_ble_eq_true rfl) rfl rfl ?_
      rintro _ _ ⟨rfl, hH⟩; obtain rfl := hH.symm
      show WP l Z hB _ _ _ _ _ _ _ _ (H ++ [obj "java/util/ArrayList" ksAL [(.int (3 : Int32)), (rf hB (H.length + 3)), (.int (3 : Int32))], arr (.object "java/lang/Object") [(.ref (bo x0))], arr (.object "java/lang/Object") [(.ref (bo x0)), (.ref (bo x1))], arr (.object "java/lang/Object") [(.ref (bo x0)), (.ref (bo x1)), (.ref (bo x))]]) _ _ [(.int (1 : Int32))]
      refine Wk.popV (pc' := 39) d4_38 rfl rfl ?_
      refine Wk.aloadN (pc' := 40) d4_39 rfl rfl rfl ?_
      refine Wk.getF0 (pc' := 43) (i := 0) (j := 1) d4_40 (wd13 hw) (Wk.gaA h0) rfl rfl rfl ?_
      refine Wk.iloadN (pc' := 44) d4_43 rfl rfl ?_
      refine Wk.ialoadG (pc' := 45) (i := 1) d4_44 (Wk.gaA h1) hy rfl ?_
      refine Wk.istoreN (pc' := 46) (Ls' := #[.val (rf hB 0), .val (.int q), .val (rf hB (H.length + 0)), .val (.int y)]) d4_45 rfl rfl ?_
      refine Wk.goTo (pc' := 14) d4_46 (by decide) (by decide) ?_
      exact m_lp3 l Z a0 hw hB cA cc sH sC bx hBZ bo hbo mr mM H n o t h0 h1 h3 tv ht q Q x0 x1 x e0 e1 (hbo x hx0 hx3).2.2.1 S y hch2 (by simp only [List.length_cons] at hS; omega) (fun G a b => hQ G a (by simpa [pre, hc1] using b))
    ·
      refine Wk.icY (pc' := 49) d4_25 (XT.ii_le_t hc1) (by decide) (by decide) ?_
      refine Wk.aloadN (pc' := 50) d4_49 rfl rfl rfl ?_
      exact Wk.aret (t := (.object "java/util/List")) d4_50 rfl rfl rfl (by first | (simp only [List.length_append, List.length_cons, List.length_nil] <;> omega) | (simp <;> omega) | simp) (Nat.le_of_ble_eq_true rfl) (hQ _ (by simp) (by simpa [pre, hc1] using isAL2 hB bo H x0 x1))
set_option maxRecDepth 65536 in
set_option maxHeartbeats 40000000 in
theorem m_lp1 (l : Launch) (Z : State) (a0 : Array Value) (hw : ∀ d ∈ tables_1, d.before a0 Z = true) (hB : Heap) (cA : Addr) (cc : Cell) (sH : Sta Z hB "java/lang/Integer$IntegerCache" "high" "I" (.int 127)) (sC : Sta Z hB "java/lang/Integer$IntegerCache" "cache" "[Ljava/lang/Integer;" (.ref cA)) (bx : Bxs Z cA cc "java/lang/Integer" "I" 256 (fun j => .int (j - 128))) (hBZ : hB = Z.heap) (bo : Int32 → Addr) (hbo : ∀ k : Int32, ¬ k < 0 → ¬ 3 < k → ¬ (k + 128 < 0 ∨ cc.slots.size ≤ (k + 128).toNatClampNeg) ∧ cc.slots[(k + 128).toNatClampNeg]? = some (.ref (bo k)) ∧ Exa Z hB (bo k) "java/lang/Integer" ∧ Fld Z hB (bo k) "java/lang/Integer" "value" "I" (.int k)) (mr : Addr) (mM : Mir Z "[Ljava/lang/Object;" mr) (H : List Rec) (n : Int32) (o t : List Int32) (h0 : H[0]? = some (obj "com/example/dissect/dissect/RecentPlaces" ksRP [(.int n), (rf hB 1), (rf hB 2), (rf hB 3)])) (h1 : H[1]? = some (ints o)) (h3 : H[3]? = some (ints t)) (tv : Int32 → Int32) (ht : ∀ x : Int32, ¬ x < 0 → ¬ 3 < x → Wk.gI t x = some (tv x)) (q : Int32) (Q : Option Value → List Rec → Prop) (x0 : Int32) (e0 : Exa Z hB (bo x0) "java/lang/Integer") (S : List Int32) (i : Int32) (hch : Chn o i S) (hS : S.length + 1 ≤ 4) (hQ : ∀ G : List Rec, G.length ≤ 5 → IsAL hB bo (H ++ G) (H.length + 0) ([x0] ++ pre tv q S) → Q (some (rf hB (H.length + 0))) (H ++ G)) : WP l Z hB ({ cls := "com/example/dissect/dissect/RecentPlaces", name := "since", desc := "(I)Ljava/util/List;" } : Jvm.MethodName) prog_102_method_5_code 4 (some (.object "java/util/List")) ({ frames := 7, cells := 5, slots := 13, locals := 102 } : Room) H.length Q 4 (H ++ [obj "java/util/ArrayList" ksAL [(.int (1 : Int32)), (rf hB (H.length + 1)), (.int (1 : Int32))], arr (.object "java/lang/Object") [(.ref (bo x0))]]) 14 #[.val (rf hB 0), .val (.int q), .val (rf hB (H.length + 0)), .val (.int i)] [] := by
  cases S with
  | nil =>
    have hi : i < 0 := hch
    refine Wk.iloadN (pc' := 15) d4_14 rfl rfl ?_
    refine Wk.ifY (pc' := 49) d4_15 (XT.i0_lt_t hi) (by decide) (by decide) ?_
    refine Wk.aloadN (pc' := 50) d4_49 rfl rfl rfl ?_
    exact Wk.aret (t := (.object "java/util/List")) d4_50 rfl rfl rfl (by first | (simp only [List.length_append, List.length_cons, List.length_nil] <;> omega) | (simp <;> omega) | simp) (Nat.le_of_ble_eq_true rfl) (hQ _ (by simp) (by simpa [pre] using isAL1 hB bo H x0))
  | cons x S =>
    obtain ⟨hix, hx0, hx3, y, hy, hch2⟩ := hch
    rw [hix]
    refine Wk.iloadN (pc' := 15) d4_14 rfl rfl ?_
    refine Wk.ifN (pc' := 18) d4_15 (XT.i0_lt_f hx0) rfl ?_
    refine Wk.aloadN (pc' := 19) d4_18 rfl rfl rfl ?_
    refine Wk.getF0 (pc' := 22) (i := 0) (j := 3) d4_19 (wd17 hw) (Wk.gaA h0) rfl rfl rfl ?_
    refine Wk.iloadN (pc' := 23) d4_22 rfl rfl ?_
    refine Wk.ialoadG (pc' := 24) (i := 3) d4_23 (Wk.gaA h3) (ht x hx0 hx3) rfl ?_
    refine Wk.iloadN (pc' := 25) d4_24 rfl rfl ?_
    by_cases hc1 : q < (tv x)
    ·
      refine Wk.icN (pc' := 28) d4_25 (XT.ii_le_f hc1) rfl ?_
      refine Wk.aloadN (pc' := 29) d4_28 rfl rfl rfl ?_
      refine Wk.iloadN (pc' := 30) d4_29 rfl rfl ?_
      refine Wk.callS (pc' := 33) (argsL := [(.int x)]) (st := [(rf hB (H.length + 0))]) d4_30 (wd58 hw) (wd59 hw) (wd60 hw) (wd61 hw) (by decide) (lenOf pd_8 rfl) (m_valOld l Z a0 hw hB (H ++ [obj "java/util/ArrayList" ksAL [(.int (1 : Int32)), (rf hB (H.length + 1)), (.int (1 : Int32))], arr (.object "java/lang/Object") [(.ref (bo x0))]]) x (bo x) cA cc sH sC bx hBZ (lo128 hx0) (hi127 hx3) (hbo x hx0 hx3).1 (hbo x hx0 hx3).2.1) rfl (Nat.le_of_ble_eq_true rfl) (Nat.le_of_ble_eq_true rfl) (by first | (simp only [List.length_append, List.length_cons, List.length_nil] <;> omega) | (simp <;> omega) | simp) (Nat.le_of_ble_eq_true rfl) rfl rfl ?_
      rintro _ _ ⟨rfl, hH⟩; obtain rfl := hH.symm
      show WP l Z hB _ _ _ _ _ _ _ _ (H ++ [obj "java/util/ArrayList" ksAL [(.int (1 : Int32)), (rf hB (H.length + 1)), (.int (1 : Int32))], arr (.object "java/lang/Object") [(.ref (bo x0))]]) _ _ [(.ref (bo x)), (rf hB (H.length + 0))]
      refine Wk.callF (pc' := 38) (argsL := [(.ref (bo x))]) (st := []) rfl d4_33 (wd65 hw) (wd66 hw) (wd67 hw) (wd68 hw) (wd69 hw) (wd70 hw) (wd71 hw) (wd72 hw) (wd35 hw) (wd73 hw) (by decide) (lenOf pd_9 rfl) (fun _ P => P.exa (Wk.gaB rfl)) (m_add_1 l Z a0 hw hB H mr mM (bo x0) (bo x) e0 (hbo x hx0 hx3).2.2.1) rfl (Nat.le_of_ble_eq_true rfl) (Nat.le_of_ble_eq_true rfl) (by first | (simp only [List.length_append, List.length_cons, List.length_nil] <;> omega) | (simp <;> omega) | simp) (Nat.le_of_ble_eq_true rfl) rfl rfl ?_
      rintro _ _ ⟨rfl, hH⟩; obtain rfl := hH.symm
      show WP l Z hB _ _ _ _ _ _ _ _ (H ++ [obj "java/util/ArrayList" ksAL [(.int (2 : Int32)), (rf hB (H.length + 2)), (.int (2 : Int32))], arr (.object "java/lang/Object") [(.ref (bo x0))], arr (.object "java/lang/Object") [(.ref (bo x0)), (.ref (bo x))]]) _ _ [(.int (1 : Int32))]
      refine Wk.popV (pc' := 39) d4_38 rfl rfl ?_
      refine Wk.aloadN (pc' := 40) d4_39 rfl rfl rfl ?_
      refine Wk.getF0 (pc' := 43) (i := 0) (j := 1) d4_40 (wd13 hw) (Wk.gaA h0) rfl rfl rfl ?_
      refine Wk.iloadN (pc' := 44) d4_43 rfl rfl ?_
      refine Wk.ialoadG (pc' := 45) (i := 1) d4_44 (Wk.gaA h1) hy rfl ?_
      refine Wk.istoreN (pc' := 46) (Ls' := #[.val (rf hB 0), .val (.int q), .val (rf hB (H.length + 0)), .val (.int y)]) d4_45 rfl rfl ?_
      refine Wk.goTo (pc' := 14) d4_46 (by decide) (by decide) ?_
      exact m_lp2 l Z a0 hw hB cA cc sH sC bx hBZ bo hbo mr mM H n o t h0 h1 h3 tv ht q Q x0 x e0 (hbo x hx0 hx3).2.2.1 S y hch2 (by simp only [List.length_cons] at hS; omega) (fun G a b => hQ G a (by simpa [pre, hc1] using b))
    ·
      refine Wk.icY (pc' := 49) d4_25 (XT.ii_le_t hc1) (by decide) (by decide) ?_
      refine Wk.aloadN (pc' := 50) d4_49 rfl rfl rfl ?_
      exact Wk.aret (t := (.object "java/util/List")) d4_50 rfl rfl rfl (by first | (simp only [List.length_append, List.length_cons, List.length_nil] <;> omega) | (simp <;> omega) | simp) (Nat.le_of_ble_eq_true rfl) (hQ _ (by simp) (by simpa [pre, hc1] using isAL1 hB bo H x0))
set_option maxRecDepth 65536 in
set_option maxHeartbeats 40000000 in
theorem m_lp0 (l : Launch) (Z : State) (a0 : Array Value) (hw : ∀ d ∈ tables_1, d.before a0 Z = true) (hB : Heap) (cA : Addr) (cc : Cell) (sH : Sta Z hB "java/lang/Integer$IntegerCache" "high" "I" (.int 127)) (sC : Sta Z hB "java/lang/Integer$IntegerCache" "cache" "[Ljava/lang/Integer;" (.ref cA)) (bx : Bxs Z cA cc "java/lang/Integer" "I" 256 (fun j => .int (j - 128))) (hBZ : hB = Z.heap) (bo : Int32 → Addr) (hbo : ∀ k : Int32, ¬ k < 0 → ¬ 3 < k → ¬ (k + 128 < 0 ∨ cc.slots.size ≤ (k + 128).toNatClampNeg) ∧ cc.slots[(k + 128).toNatClampNeg]? = some (.ref (bo k)) ∧ Exa Z hB (bo k) "java/lang/Integer" ∧ Fld Z hB (bo k) "java/lang/Integer" "value" "I" (.int k)) (mr : Addr) (mM : Mir Z "[Ljava/lang/Object;" mr) (H : List Rec) (n : Int32) (o t : List Int32) (h0 : H[0]? = some (obj "com/example/dissect/dissect/RecentPlaces" ksRP [(.int n), (rf hB 1), (rf hB 2), (rf hB 3)])) (h1 : H[1]? = some (ints o)) (h3 : H[3]? = some (ints t)) (tv : Int32 → Int32) (ht : ∀ x : Int32, ¬ x < 0 → ¬ 3 < x → Wk.gI t x = some (tv x)) (q : Int32) (Q : Option Value → List Rec → Prop) (S : List Int32) (i : Int32) (hch : Chn o i S) (hS : S.length + 0 ≤ 4) (hQ : ∀ G : List Rec, G.length ≤ 5 → IsAL hB bo (H ++ G) (H.length + 0) ([] ++ pre tv q S) → Q (some (rf hB (H.length + 0))) (H ++ G)) : WP l Z hB ({ cls := "com/example/dissect/dissect/RecentPlaces", name := "since", desc := "(I)Ljava/util/List;" } : Jvm.MethodName) prog_102_method_5_code 4 (some (.object "java/util/List")) ({ frames := 7, cells := 5, slots := 13, locals := 102 } : Room) H.length Q 4 (H ++ [obj "java/util/ArrayList" ksAL [(.int (0 : Int32)), (rf hB (H.length + 1)), (.int (0 : Int32))], arr (.object "java/lang/Object") [.null]]) 14 #[.val (rf hB 0), .val (.int q), .val (rf hB (H.length + 0)), .val (.int i)] [] := by
  cases S with
  | nil =>
    have hi : i < 0 := hch
    refine Wk.iloadN (pc' := 15) d4_14 rfl rfl ?_
    refine Wk.ifY (pc' := 49) d4_15 (XT.i0_lt_t hi) (by decide) (by decide) ?_
    refine Wk.aloadN (pc' := 50) d4_49 rfl rfl rfl ?_
    exact Wk.aret (t := (.object "java/util/List")) d4_50 rfl rfl rfl (by first | (simp only [List.length_append, List.length_cons, List.length_nil] <;> omega) | (simp <;> omega) | simp) (Nat.le_of_ble_eq_true rfl) (hQ _ (by simp) (by simpa [pre] using isAL0 hB bo H))
  | cons x S =>
    obtain ⟨hix, hx0, hx3, y, hy, hch2⟩ := hch
    rw [hix]
    refine Wk.iloadN (pc' := 15) d4_14 rfl rfl ?_
    refine Wk.ifN (pc' := 18) d4_15 (XT.i0_lt_f hx0) rfl ?_
    refine Wk.aloadN (pc' := 19) d4_18 rfl rfl rfl ?_
    refine Wk.getF0 (pc' := 22) (i := 0) (j := 3) d4_19 (wd17 hw) (Wk.gaA h0) rfl rfl rfl ?_
    refine Wk.iloadN (pc' := 23) d4_22 rfl rfl ?_
    refine Wk.ialoadG (pc' := 24) (i := 3) d4_23 (Wk.gaA h3) (ht x hx0 hx3) rfl ?_
    refine Wk.iloadN (pc' := 25) d4_24 rfl rfl ?_
    by_cases hc1 : q < (tv x)
    ·
      refine Wk.icN (pc' := 28) d4_25 (XT.ii_le_f hc1) rfl ?_
      refine Wk.aloadN (pc' := 29) d4_28 rfl rfl rfl ?_
      refine Wk.iloadN (pc' := 30) d4_29 rfl rfl ?_
      refine Wk.callS (pc' := 33) (argsL := [(.int x)]) (st := [(rf hB (H.length + 0))]) d4_30 (wd58 hw) (wd59 hw) (wd60 hw) (wd61 hw) (by decide) (lenOf pd_8 rfl) (m_valOld l Z a0 hw hB (H ++ [obj "java/util/ArrayList" ksAL [(.int (0 : Int32)), (rf hB (H.length + 1)), (.int (0 : Int32))], arr (.object "java/lang/Object") [.null]]) x (bo x) cA cc sH sC bx hBZ (lo128 hx0) (hi127 hx3) (hbo x hx0 hx3).1 (hbo x hx0 hx3).2.1) rfl (Nat.le_of_ble_eq_true rfl) (Nat.le_of_ble_eq_true rfl) (by first | (simp only [List.length_append, List.length_cons, List.length_nil] <;> omega) | (simp <;> omega) | simp) (Nat.le_of_ble_eq_true rfl) rfl rfl ?_
      rintro _ _ ⟨rfl, hH⟩; obtain rfl := hH.symm
      show WP l Z hB _ _ _ _ _ _ _ _ (H ++ [obj "java/util/ArrayList" ksAL [(.int (0 : Int32)), (rf hB (H.length + 1)), (.int (0 : Int32))], arr (.object "java/lang/Object") [.null]]) _ _ [(.ref (bo x)), (rf hB (H.length + 0))]
      refine Wk.callF (pc' := 38) (argsL := [(.ref (bo x))]) (st := []) rfl d4_33 (wd65 hw) (wd66 hw) (wd67 hw) (wd68 hw) (wd69 hw) (wd70 hw) (wd71 hw) (wd72 hw) (wd35 hw) (wd73 hw) (by decide) (lenOf pd_9 rfl) (fun _ P => P.exa (Wk.gaB rfl)) (m_add_0 l Z a0 hw hB H (bo x) (hbo x hx0 hx3).2.2.1) rfl (Nat.le_of_ble_eq_true rfl) (Nat.le_of_ble_eq_true rfl) (by first | (simp only [List.length_append, List.length_cons, List.length_nil] <;> omega) | (simp <;> omega) | simp) (Nat.le_of_ble_eq_true rfl) rfl rfl ?_
      rintro _ _ ⟨rfl, hH⟩; obtain rfl := hH.symm
      show WP l Z hB _ _ _ _ _ _ _ _ (H ++ [obj "java/util/ArrayList" ksAL [(.int (1 : Int32)), (rf hB (H.length + 1)), (.int (1 : Int32))], arr (.object "java/lang/Object") [(.ref (bo x))]]) _ _ [(.int (1 : Int32))]
      refine Wk.popV (pc' := 39) d4_38 rfl rfl ?_
      refine Wk.aloadN (pc' := 40) d4_39 rfl rfl rfl ?_
      refine Wk.getF0 (pc' := 43) (i := 0) (j := 1) d4_40 (wd13 hw) (Wk.gaA h0) rfl rfl rfl ?_
      refine Wk.iloadN (pc' := 44) d4_43 rfl rfl ?_
      refine Wk.ialoadG (pc' := 45) (i := 1) d4_44 (Wk.gaA h1) hy rfl ?_
      refine Wk.istoreN (pc' := 46) (Ls' := #[.val (rf hB 0), .val (.int q), .val (rf hB (H.length + 0)), .val (.int y)]) d4_45 rfl rfl ?_
      refine Wk.goTo (pc' := 14) d4_46 (by decide) (by decide) ?_
      exact m_lp1 l Z a0 hw hB cA cc sH sC bx hBZ bo hbo mr mM H n o t h0 h1 h3 tv ht q Q x (hbo x hx0 hx3).2.2.1 S y hch2 (by simp only [List.length_cons] at hS; omega) (fun G a b => hQ G a (by simpa [pre, hc1] using b))
    ·
      refine Wk.icY (pc' := 49) d4_25 (XT.ii_le_t hc1) (by decide) (by decide) ?_
      refine Wk.aloadN (pc' := 50) d4_49 rfl rfl rfl ?_
      exact Wk.aret (t := (.object "java/util/List")) d4_50 rfl rfl rfl (by first | (simp only [List.length_append, List.length_cons, List.length_nil] <;> omega) | (simp <;> omega) | simp) (Nat.le_of_ble_eq_true rfl) (hQ _ (by simp) (by simpa [pre, hc1] using isAL0 hB bo H))
set_option maxRecDepth 65536 in
set_option maxHeartbeats 40000000 in
theorem m_since (l : Launch) (Z : State) (a0 : Array Value) (hw : ∀ d ∈ tables_1, d.before a0 Z = true) (hB : Heap) (cA : Addr) (cc : Cell) (sH : Sta Z hB "java/lang/Integer$IntegerCache" "high" "I" (.int 127)) (sC : Sta Z hB "java/lang/Integer$IntegerCache" "cache" "[Ljava/lang/Integer;" (.ref cA)) (bx : Bxs Z cA cc "java/lang/Integer" "I" 256 (fun j => .int (j - 128))) (hBZ : hB = Z.heap) (bo : Int32 → Addr) (hbo : ∀ k : Int32, ¬ k < 0 → ¬ 3 < k → ¬ (k + 128 < 0 ∨ cc.slots.size ≤ (k + 128).toNatClampNeg) ∧ cc.slots[(k + 128).toNatClampNeg]? = some (.ref (bo k)) ∧ Exa Z hB (bo k) "java/lang/Integer" ∧ Fld Z hB (bo k) "java/lang/Integer" "value" "I" (.int k)) (mr : Addr) (mM : Mir Z "[Ljava/lang/Object;" mr) (H : List Rec) (n : Int32) (o t : List Int32) (h0 : H[0]? = some (obj "com/example/dissect/dissect/RecentPlaces" ksRP [(.int n), (rf hB 1), (rf hB 2), (rf hB 3)])) (h1 : H[1]? = some (ints o)) (h3 : H[3]? = some (ints t)) (tv : Int32 → Int32) (ht : ∀ x : Int32, ¬ x < 0 → ¬ 3 < x → Wk.gI t x = some (tv x)) (q : Int32) (S : List Int32) (hch : Chn o n S) (hS : S.length + 0 ≤ 4) : Ctr l Z hB ({ cls := "com/example/dissect/dissect/RecentPlaces", name := "since", desc := "(I)Ljava/util/List;" } : Jvm.MethodName) prog_102_method_5_code 4 (some (.object "java/util/List")) [] ({ frames := 7, cells := 5, slots := 13, locals := 102 } : Room) #[(rf hB 0), (.int q)] H (fun v H' => ∃ G : List Rec, v = some (rf hB (H.length + 0)) ∧ H' = H ++ G ∧ G.length ≤ 5 ∧ IsAL hB bo (H ++ G) (H.length + 0) (pre tv q S)) := by
  refine Wk.ctr pn_18 (Ls := #[.val (rf hB 0), .val (.int q), .unset, .unset]) (fun m => by first | rfl | (simp [entryFrame, mkF, argsToLocals, Value.category]; done)) ?_
  refine Wk.newObj (pc' := 3) (i := (H.length + 0)) (H' := (H ++ [obj "java/util/ArrayList" ksAL [(.int (0 : Int32)), .null, (.int (0 : Int32))]])) d4_0 (wd33 hw) (wd34 hw) (wd35 hw) (ksAL_laid hw) (ksAL_dist hw) (by first | (simp only [List.length_append, List.length_cons, List.length_nil] <;> omega) | (simp <;> omega) | simp) (Nat.le_of_ble_eq_true rfl) rfl (by simp) rfl ?_
  refine Wk.dup (pc' := 4) d4_3 rfl rfl ?_
  refine Wk.iconst (pc' := 5) (1 : Int32) d4_4 (by decide) rfl ?_
  refine Wk.callI (pc' := 8) (argsL := [(.int (1 : Int32))]) (st := [(rf hB (H.length + 0))]) d4_5 rfl (wd36 hw) (wd37 hw) (wd35 hw) (wd38 hw) (by decide) (lenOf pd_10 rfl) (m_ali l Z a0 hw hB H) rfl (Nat.le_of_ble_eq_true rfl) (Nat.le_of_ble_eq_true rfl) (by first | (simp only [List.length_append, List.length_cons, List.length_nil] <;> omega) | (simp <;> omega) | simp) (Nat.le_of_ble_eq_true rfl) rfl rfl ?_
  rintro _ _ ⟨rfl, hH⟩; obtain rfl := hH.symm
  show WP l Z hB _ _ _ _ _ _ _ _ (H ++ [obj "java/util/ArrayList" ksAL [(.int (0 : Int32)), (rf hB (H.length + 1)), (.int (0 : Int32))], arr (.object "java/lang/Object") [.null]]) _ _ [(rf hB (H.length + 0))]
  refine Wk.astoreN (pc' := 9) (Ls' := #[.val (rf hB 0), .val (.int q), .val (rf hB (H.length + 0)), .unset]) d4_8 rfl rfl rfl ?_
  refine Wk.aloadN (pc' := 10) d4_9 rfl rfl rfl ?_
  refine Wk.getF0 (pc' := 13) (i := 0) (j := 0) d4_10 (wd10 hw) (Wk.gaA h0) rfl rfl rfl ?_
  refine Wk.istoreN (pc' := 14) (Ls' := #[.val (rf hB 0), .val (.int q), .val (rf hB (H.length + 0)), .val (.int n)]) d4_13 rfl rfl ?_
  exact m_lp0 l Z a0 hw hB cA cc sH sC bx hBZ bo hbo mr mM H n o t h0 h1 h3 tv ht q _ S n hch hS (fun G a b => ⟨G, rfl, rfl, a, by simpa using b⟩)
set_option maxRecDepth 65536 in
set_option maxHeartbeats 40000000 in
theorem m_size (l : Launch) (Z : State) (a0 : Array Value) (hw : ∀ d ∈ tables_1, d.before a0 Z = true) (hB : Heap) (H : List Rec) (i e : Nat) (mc sz : Int32) (vals : List Value) (hi : H[i]? = some (obj "java/util/ArrayList" ksAL [(.int mc), (rf hB e), (.int sz)])) (he : H[e]? = some (arr (.object "java/lang/Object") vals)) : Ctr l Z hB ({ cls := "java/util/ArrayList", name := "size", desc := "()I" } : Jvm.MethodName) jdk_38_method_8_code 1 (some .int) [] ({ frames := 0, cells := 0, slots := 0, locals := 0 } : Room) #[(rf hB i)] H (fun v H' => v = some (.int sz) ∧ H' = H) := by
  refine Wk.ctr pn_19 (Ls := #[.val (rf hB i)]) (fun m => by first | rfl | (simp [entryFrame, mkF, argsToLocals, Value.category]; done)) ?_
  refine Wk.aloadN (pc' := 1) d11_0 rfl rfl rfl ?_
  refine Wk.getF0 (pc' := 4) (i := i) (j := 2) d11_1 (wd76 hw) hi rfl rfl rfl ?_
  exact Wk.iret (t := .int) d11_4 rfl (by simp) rfl (by simp <;> omega) (Nat.le_of_ble_eq_true rfl) ⟨rfl, rfl⟩
set_option maxRecDepth 65536 in
set_option maxHeartbeats 40000000 in
theorem m_chk3 (l : Launch) (Z : State) (a0 : Array Value) (hw : ∀ d ∈ tables_1, d.before a0 Z = true) (hB : Heap) (H : List Rec) (j sz : Int32) (hj0 : ¬ j < 0) (hjs : j < sz) : Ctr l Z hB ({ cls := "jdk/internal/util/Preconditions", name := "checkIndex", desc := "(IILjava/util/function/BiFunction;)I" } : Jvm.MethodName) jdk_41_method_11_code 3 (some .int) [] ({ frames := 0, cells := 0, slots := 0, locals := 0 } : Room) #[(.int j), (.int sz), .null] H (fun v H' => v = some (.int j) ∧ H' = H) := by
  refine Wk.ctr pn_20 (Ls := #[.val (.int j), .val (.int sz), .val .null]) (fun m => by first | rfl | (simp [entryFrame, mkF, argsToLocals, Value.category]; done)) ?_
  refine Wk.iloadN (pc' := 1) d15_0 rfl rfl ?_
  refine Wk.ifN (pc' := 4) d15_1 (XT.i0_lt_f hj0) rfl ?_
  refine Wk.iloadN (pc' := 5) d15_4 rfl rfl ?_
  refine Wk.iloadN (pc' := 6) d15_5 rfl rfl ?_
  refine Wk.icY (pc' := 16) d15_6 (XT.ii_lt_t hjs) (by decide) (by decide) ?_
  refine Wk.iloadN (pc' := 17) d15_16 rfl rfl ?_
  exact Wk.iret (t := .int) d15_17 rfl (by simp) rfl (by simp <;> omega) (Nat.le_of_ble_eq_true rfl) ⟨rfl, rfl⟩
set_option maxRecDepth 65536 in
set_option maxHeartbeats 40000000 in
theorem m_chk2 (l : Launch) (Z : State) (a0 : Array Value) (hw : ∀ d ∈ tables_1, d.before a0 Z = true) (hB : Heap) (H : List Rec) (j sz : Int32) (hj0 : ¬ j < 0) (hjs : j < sz) : Ctr l Z hB ({ cls := "java/util/Objects", name := "checkIndex", desc := "(II)I" } : Jvm.MethodName) jdk_31_method_17_code 2 (some .int) [] ({ frames := 1, cells := 0, slots := 0, locals := 14 } : Room) #[(.int j), (.int sz)] H (fun v H' => v = some (.int j) ∧ H' = H) := by
  refine Wk.ctr pn_21 (Ls := #[.val (.int j), .val (.int sz)]) (fun m => by first | rfl | (simp [entryFrame, mkF, argsToLocals, Value.category]; done)) ?_
  refine Wk.iloadN (pc' := 1) d14_0 rfl rfl ?_
  refine Wk.iloadN (pc' := 2) d14_1 rfl rfl ?_
  refine Wk.aconstNull (pc' := 3) d14_2 rfl ?_
  refine Wk.callS (pc' := 6) (argsL := [(.int j), (.int sz), .null]) (st := []) d14_3 (wd107 hw) (wd108 hw) (wd109 hw) (wd110 hw) (by decide) (lenOf pd_11 rfl) (m_chk3 l Z a0 hw hB H j sz hj0 hjs) rfl (Nat.le_of_ble_eq_true rfl) (Nat.le_of_ble_eq_true rfl) (by simp <;> omega) (Nat.le_of_ble_eq_true rfl) rfl rfl ?_
  rintro _ _ ⟨rfl, hH⟩; obtain rfl := hH.symm
  show WP l Z hB _ _ _ _ _ _ _ _ H _ _ [(.int j)]
  exact Wk.iret (t := .int) d14_6 rfl (by simp) rfl (by simp <;> omega) (Nat.le_of_ble_eq_true rfl) ⟨rfl, rfl⟩
set_option maxRecDepth 65536 in
set_option maxHeartbeats 40000000 in
theorem m_eld (l : Launch) (Z : State) (a0 : Array Value) (hw : ∀ d ∈ tables_1, d.before a0 Z = true) (hB : Heap) (H : List Rec) (i e : Nat) (mc sz : Int32) (vals : List Value) (hi : H[i]? = some (obj "java/util/ArrayList" ksAL [(.int mc), (rf hB e), (.int sz)])) (he : H[e]? = some (arr (.object "java/lang/Object") vals)) (j : Int32) (b : Addr) (hj0 : ¬ j < 0) (hv : vals[j.toNatClampNeg]? = some (.ref b)) : Ctr l Z hB ({ cls := "java/util/ArrayList", name := "elementData", desc := "(I)Ljava/lang/Object;" } : Jvm.MethodName) jdk_38_method_18_code 2 (some (.object "java/lang/Object")) [] ({ frames := 0, cells := 0, slots := 0, locals := 0 } : Room) #[(rf hB i), (.int j)] H (fun v H' => v = some (.ref b) ∧ H' = H) := by
  refine Wk.ctr pn_22 (Ls := #[.val (rf hB i), .val (.int j)]) (fun m => by first | rfl | (simp [entryFrame, mkF, argsToLocals, Value.category]; done)) ?_
  refine Wk.aloadN (pc' := 1) d16_0 rfl rfl rfl ?_
  refine Wk.getF0 (pc' := 4) (i := i) (j := 1) d16_1 (wd56 hw) hi rfl rfl rfl ?_
  refine Wk.iloadN (pc' := 5) d16_4 rfl rfl ?_
  refine Wk.aaload (pc' := 6) (i := e) (jn := j.toNatClampNeg) (v := (.ref b)) d16_5 he rfl hj0 rfl hv rfl ?_
  exact Wk.aret (t := (.object "java/lang/Object")) d16_6 rfl rfl rfl (by simp <;> omega) (Nat.le_of_ble_eq_true rfl) ⟨rfl, rfl⟩
set_option maxRecDepth 65536 in
set_option maxHeartbeats 40000000 in
theorem m_get (l : Launch) (Z : State) (a0 : Array Value) (hw : ∀ d ∈ tables_1, d.before a0 Z = true) (hB : Heap) (H : List Rec) (i e : Nat) (mc sz : Int32) (vals : List Value) (hi : H[i]? = some (obj "java/util/ArrayList" ksAL [(.int mc), (rf hB e), (.int sz)])) (he : H[e]? = some (arr (.object "java/lang/Object") vals)) (j : Int32) (b : Addr) (hj0 : ¬ j < 0) (hv : vals[j.toNatClampNeg]? = some (.ref b)) (hjs : j < sz) : Ctr l Z hB ({ cls := "java/util/ArrayList", name := "get", desc := "(I)Ljava/lang/Object;" } : Jvm.MethodName) jdk_38_method_20_code 2 (some (.object "java/lang/Object")) [] ({ frames := 2, cells := 0, slots := 0, locals := 27 } : Room) #[(rf hB i), (.int j)] H (fun v H' => v = some (.ref b) ∧ H' = H) := by
  refine Wk.ctr pn_23 (Ls := #[.val (rf hB i), .val (.int j)]) (fun m => by first | rfl | (simp [entryFrame, mkF, argsToLocals, Value.category]; done)) ?_
  refine Wk.iloadN (pc' := 1) d13_0 rfl rfl ?_
  refine Wk.aloadN (pc' := 2) d13_1 rfl rfl rfl ?_
  refine Wk.getF0 (pc' := 5) (i := i) (j := 2) d13_2 (wd76 hw) hi rfl rfl rfl ?_
  refine Wk.callS (pc' := 8) (argsL := [(.int j), (.int sz)]) (st := []) d13_5 (wd103 hw) (wd104 hw) (wd105 hw) (wd106 hw) (by decide) (lenOf pd_1 rfl) (m_chk2 l Z a0 hw hB H j sz hj0 hjs) rfl (Nat.le_of_ble_eq_true rfl) (Nat.le_of_ble_eq_true rfl) (by simp <;> omega) (Nat.le_of_ble_eq_true rfl) rfl rfl ?_
  rintro _ _ ⟨rfl, hH⟩; obtain rfl := hH.symm
  show WP l Z hB _ _ _ _ _ _ _ _ H _ _ [(.int j)]
  refine Wk.popV (pc' := 9) d13_8 rfl rfl ?_
  refine Wk.aloadN (pc' := 10) d13_9 rfl rfl rfl ?_
  refine Wk.iloadN (pc' := 11) d13_10 rfl rfl ?_
  refine Wk.callV (pc' := 14) (argsL := [(.int j)]) (st := []) d13_11 (wd111 hw) (wd112 hw) (Wk.nfSel (wd114 hw)) (wd114 hw) (wd113 hw) (wd35 hw) (wd115 hw) (by decide) (lenOf pd_12 rfl) (fun _ P => P.exa hi) (m_eld l Z a0 hw hB H i e mc sz vals hi he j b hj0 hv) rfl (Nat.le_of_ble_eq_true rfl) (Nat.le_of_ble_eq_true rfl) (by simp <;> omega) (Nat.le_of_ble_eq_true rfl) rfl rfl ?_
  rintro _ _ ⟨rfl, hH⟩; obtain rfl := hH.symm
  show WP l Z hB _ _ _ _ _ _ _ _ H _ _ [(.ref b)]
  exact Wk.aret (t := (.object "java/lang/Object")) d13_14 rfl rfl rfl (by simp <;> omega) (Nat.le_of_ble_eq_true rfl) ⟨rfl, rfl⟩
set_option maxRecDepth 65536 in
set_option maxHeartbeats 40000000 in
theorem m_intv (l : Launch) (Z : State) (a0 : Array Value) (hw : ∀ d ∈ tables_1, d.before a0 Z = true) (hB : Heap) (H : List Rec) (b : Addr) (k : Int32) (F : Fld Z hB b "java/lang/Integer" "value" "I" (.int k)) : Ctr l Z hB ({ cls := "java/lang/Integer", name := "intValue", desc := "()I" } : Jvm.MethodName) jdk_33_method_27_code 1 (some .int) [] ({ frames := 0, cells := 0, slots := 0, locals := 0 } : Room) #[(.ref b)] H (fun v H' => v = some (.int k) ∧ H' = H) := by
  refine Wk.ctr pn_24 (Ls := #[.val (.ref b)]) (fun m => by first | rfl | (simp [entryFrame, mkF, argsToLocals, Value.category]; done)) ?_
  refine Wk.aloadN (pc' := 1) d17_0 rfl rfl rfl ?_
  refine Wk.getFold (pc' := 4) d17_1 (wd123 hw) F rfl ?_
  exact Wk.iret (t := .int) d17_4 rfl (by simp) rfl (by simp <;> omega) (Nat.le_of_ble_eq_true rfl) ⟨rfl, rfl⟩
def stepM (xs : List Int32) (j prev p0 p1 p2 p3 : Int32) : Int32 := if j < xs.length.toInt32 then (match xs[j.toNatClampNeg]? with | none => prev | some e => if lastM e p0 p1 p2 p3 < 0 then -9 else if lastM e p0 p1 p2 p3 < prev then lastM e p0 p1 p2 p3 else -9) else prev
theorem at_len {xs : List Int32} {j : Int32} (h0 : ¬ j < 0) (h : j < xs.length.toInt32) (hl : xs.length ≤ 4) : ∃ e, xs[j.toNatClampNeg]? = some e := by
  have e1 : xs.length.toInt32.toInt = xs.length := by first | exact len_toInt (by omega) | simp
  rw [Int32.lt_iff_toInt_lt, e1] at h
  have : j.toNatClampNeg < xs.length := by simp only [Int32.toNatClampNeg]; rw [Int32.lt_iff_toInt_lt] at h0; have : (0 : Int32).toInt = 0 := rfl; omega
  exact ⟨_, List.getElem?_eq_getElem this⟩
set_option maxRecDepth 65536 in
set_option maxHeartbeats 40000000 in
theorem m_step (l : Launch) (Z : State) (a0 : Array Value) (hw : ∀ d ∈ tables_1, d.before a0 Z = true) (hB : Heap) (cA : Addr) (cc : Cell) (sH : Sta Z hB "java/lang/Integer$IntegerCache" "high" "I" (.int 127)) (sC : Sta Z hB "java/lang/Integer$IntegerCache" "cache" "[Ljava/lang/Integer;" (.ref cA)) (bx : Bxs Z cA cc "java/lang/Integer" "I" 256 (fun j => .int (j - 128))) (hBZ : hB = Z.heap) (bo : Int32 → Addr) (hbo : ∀ k : Int32, ¬ k < 0 → ¬ 3 < k → ¬ (k + 128 < 0 ∨ cc.slots.size ≤ (k + 128).toNatClampNeg) ∧ cc.slots[(k + 128).toNatClampNeg]? = some (.ref (bo k)) ∧ Exa Z hB (bo k) "java/lang/Integer" ∧ Fld Z hB (bo k) "java/lang/Integer" "value" "I" (.int k)) (H : List Rec) (i e : Nat) (mc : Int32) (vals : List Value) (xs : List Int32) (hi : H[i]? = some (obj "java/util/ArrayList" ksAL [(.int mc), (rf hB e), (.int xs.length.toInt32)])) (he : H[e]? = some (arr (.object "java/lang/Object") vals)) (hvs : ∀ (k : Nat) (x : Int32), xs[k]? = some x → vals[k]? = some (.ref (bo x))) (hl : xs.length ≤ 4) (hx : ∀ x ∈ xs, ¬ x < 0 ∧ ¬ 3 < x) (j prev p0 p1 p2 p3 : Int32) (hj0 : ¬ j < 0) : Ctr l Z hB ({ cls := "com/example/dissect/dissect/RecentPlacesPutPinLaw", name := "step", desc := "(Ljava/util/List;IIIIII)I" } : Jvm.MethodName) method_4_code 9 (some .int) [] ({ frames := 3, cells := 0, slots := 0, locals := 40 } : Room) #[(rf hB i), (.int j), (.int prev), (.int p0), (.int p1), (.int p2), (.int p3)] H (fun v H' => v = some (.int (stepM xs j prev p0 p1 p2 p3)) ∧ H' = H) := by
  refine Wk.ctr pn_25 (Ls := #[.val (rf hB i), .val (.int j), .val (.int prev), .val (.int p0), .val (.int p1), .val (.int p2), .val (.int p3), .unset, .unset]) (fun m => by first | rfl | (simp [entryFrame, mkF, argsToLocals, Value.category]; done)) ?_
  refine Wk.iloadN (pc' := 1) d12_0 rfl rfl ?_
  refine Wk.aloadN (pc' := 2) d12_1 rfl rfl rfl ?_
  refine Wk.callF (pc' := 7) (argsL := []) (st := [(.int j)]) rfl d12_2 (wd84 hw) (wd85 hw) (wd86 hw) (wd87 hw) (wd88 hw) (wd89 hw) (wd90 hw) (wd72 hw) (wd35 hw) (wd91 hw) (by decide) (lenOf pd_13 rfl) (fun _ P => P.exa hi) (m_size l Z a0 hw hB H i e mc xs.length.toInt32 vals hi he) rfl (Nat.le_of_ble_eq_true rfl) (Nat.le_of_ble_eq_true rfl) (by simp <;> omega) (Nat.le_of_ble_eq_true rfl) rfl rfl ?_
  rintro _ _ ⟨rfl, hH⟩; obtain rfl := hH.symm
  show WP l Z hB _ _ _ _ _ _ _ _ H _ _ [(.int xs.length.toInt32), (.int j)]
  by_cases hc1 : j < xs.length.toInt32
  ·
    refine Wk.icY (pc' := 12) d12_7 (XT.ii_lt_t hc1) (by decide) (by decide) ?_
    obtain ⟨ex, hex⟩ := at_len hj0 hc1 hl
    have hxx := hx ex (List.mem_of_getElem? hex)
    have hb := hbo ex hxx.1 hxx.2
    refine Wk.aloadN (pc' := 13) d12_12 rfl rfl rfl ?_
    refine Wk.iloadN (pc' := 14) d12_13 rfl rfl ?_
    refine Wk.callF (pc' := 19) (argsL := [(.int j)]) (st := []) rfl d12_14 (wd95 hw) (wd96 hw) (wd97 hw) (wd98 hw) (wd99 hw) (wd100 hw) (wd101 hw) (wd72 hw) (wd35 hw) (wd102 hw) (by decide) (lenOf pd_12 rfl) (fun _ P => P.exa hi) (m_get l Z a0 hw hB H i e mc xs.length.toInt32 vals hi he j (bo ex) hj0 (hvs _ _ hex) hc1) rfl (Nat.le_of_ble_eq_true rfl) (Nat.le_of_ble_eq_true rfl) (by simp <;> omega) (Nat.le_of_ble_eq_true rfl) rfl rfl ?_
    rintro _ _ ⟨rfl, hH⟩; obtain rfl := hH.symm
    show WP l Z hB _ _ _ _ _ _ _ _ H _ _ [(.ref (bo ex))]
    refine Wk.castTo (pc' := 22) d12_19 (wd116 hw) (fun _ P => Ins.self (hb.2.2.1.ext P.toExt)) rfl ?_
    refine Wk.callV (pc' := 25) (argsL := []) (st := []) d12_22 (wd118 hw) (wd119 hw) (Wk.nfSel (wd121 hw)) (wd121 hw) (wd120 hw) (wd60 hw) (wd122 hw) (by decide) (lenOf pd_13 rfl) (fun _ P => hb.2.2.1.ext P.toExt) (m_intv l Z a0 hw hB H (bo ex) ex hb.2.2.2) rfl (Nat.le_of_ble_eq_true rfl) (Nat.le_of_ble_eq_true rfl) (by simp <;> omega) (Nat.le_of_ble_eq_true rfl) rfl rfl ?_
    rintro _ _ ⟨rfl, hH⟩; obtain rfl := hH.symm
    show WP l Z hB _ _ _ _ _ _ _ _ H _ _ [(.int ex)]
    refine Wk.istore (pc' := 27) (Ls' := #[.val (rf hB i), .val (.int j), .val (.int prev), .val (.int p0), .val (.int p1), .val (.int p2), .val (.int p3), .val (.int ex), .unset]) d12_25 rfl rfl ?_
    refine Wk.iload (pc' := 29) d12_27 rfl rfl ?_
    refine Wk.ifN (pc' := 32) d12_29 (XT.i0_lt_f hxx.1) rfl ?_
    refine Wk.iload (pc' := 34) d12_32 rfl rfl ?_
    refine Wk.iconst (pc' := 35) (3 : Int32) d12_34 (by decide) rfl ?_
    refine Wk.icY (pc' := 41) d12_35 (XT.ii_le_t hxx.2) (by decide) (by decide) ?_
    refine Wk.iload (pc' := 43) d12_41 rfl rfl ?_
    refine Wk.iloadN (pc' := 44) d12_43 rfl rfl ?_
    refine Wk.iload (pc' := 46) d12_44 rfl rfl ?_
    refine Wk.iload (pc' := 48) d12_46 rfl rfl ?_
    refine Wk.iload (pc' := 50) d12_48 rfl rfl ?_
    refine Wk.callS (pc' := 53) (argsL := [(.int ex), (.int p0), (.int p1), (.int p2), (.int p3)]) (st := []) d12_50 (wd125 hw) (wd126 hw) (wd26 hw) (wd127 hw) (by decide) (lenOf pd_14 rfl) (m_last l Z a0 hw hB H ex p0 p1 p2 p3) rfl (Nat.le_of_ble_eq_true rfl) (Nat.le_of_ble_eq_true rfl) (by simp <;> omega) (Nat.le_of_ble_eq_true rfl) rfl rfl ?_
    rintro _ _ ⟨rfl, hH⟩; obtain rfl := hH.symm
    show WP l Z hB _ _ _ _ _ _ _ _ H _ _ [(.int (lastM ex p0 p1 p2 p3))]
    refine Wk.istore (pc' := 55) (Ls' := #[.val (rf hB i), .val (.int j), .val (.int prev), .val (.int p0), .val (.int p1), .val (.int p2), .val (.int p3), .val (.int ex), .val (.int (lastM ex p0 p1 p2 p3))]) d12_53 rfl rfl ?_
    refine Wk.iload (pc' := 57) d12_55 rfl rfl ?_
    by_cases hc2 : (lastM ex p0 p1 p2 p3) < (0 : Int32)
    ·
      refine Wk.ifY (pc' := 66) d12_57 (XT.i0_lt_t hc2) (by decide) (by decide) ?_
      refine Wk.bipush (pc' := 68) (-9 : Int32) d12_66 (by decide) rfl ?_
      exact Wk.iret (t := .int) d12_68 rfl (by simp) rfl (by simp <;> omega) (Nat.le_of_ble_eq_true rfl) ⟨congrArg (fun z => some (Value.int z)) (show (-9 : Int32) = stepM xs j prev p0 p1 p2 p3 from by rw [stepM, if_pos hc1, hex]; dsimp only; rw [if_pos hc2]), rfl⟩
    ·
      refine Wk.ifN (pc' := 60) d12_57 (XT.i0_lt_f hc2) rfl ?_
      refine Wk.iload (pc' := 62) d12_60 rfl rfl ?_
      refine Wk.iloadN (pc' := 63) d12_62 rfl rfl ?_
      by_cases hc3 : (lastM ex p0 p1 p2 p3) < prev
      ·
        refine Wk.icY (pc' := 69) d12_63 (XT.ii_lt_t hc3) (by decide) (by decide) ?_
        refine Wk.iload (pc' := 71) d12_69 rfl rfl ?_
        exact Wk.iret (t := .int) d12_71 rfl (by simp) rfl (by simp <;> omega) (Nat.le_of_ble_eq_true rfl) ⟨congrArg (fun z => some (Value.int z)) (show (lastM ex p0 p1 p2 p3) = stepM xs j prev p0 p1 p2 p3 from by rw [stepM, if_pos hc1, hex]; dsimp only; rw [if_neg hc2, if_pos hc3]), rfl⟩
      ·
        refine Wk.icN (pc' := 66) d12_63 (XT.ii_lt_f hc3) rfl ?_
        refine Wk.bipush (pc' := 68) (-9 : Int32) d12_66 (by decide) rfl ?_
        exact Wk.iret (t := .int) d12_68 rfl (by simp) rfl (by simp <;> omega) (Nat.le_of_ble_eq_true rfl) ⟨congrArg (fun z => some (Value.int z)) (show (-9 : Int32) = stepM xs j prev p0 p1 p2 p3 from by rw [stepM, if_pos hc1, hex]; dsimp only; rw [if_neg hc2, if_neg hc3]), rfl⟩
  ·
    refine Wk.icN (pc' := 10) d12_7 (XT.ii_lt_f hc1) rfl ?_
    refine Wk.iloadN (pc' := 11) d12_10 rfl rfl ?_
    exact Wk.iret (t := .int) d12_11 rfl (by simp) rfl (by simp <;> omega) (Nat.le_of_ble_eq_true rfl) ⟨congrArg (fun z => some (Value.int z)) (show prev = stepM xs j prev p0 p1 p2 p3 from by rw [stepM, if_neg hc1]), rfl⟩
def b01 (e q : Int32) : Int32 := if q < e then 1 else 0
set_option maxRecDepth 65536 in
set_option maxHeartbeats 40000000 in
theorem sel_205 (l : Launch) (Z : State) (hB : Heap) {R : Room} {n1 sl : Nat} {Q : Option Value → List Rec → Prop} {H : List Rec} {Ls : Array Slot} {st : List Value} {e : Int32} (h1 : Ls[13]? = some (.val (.int e))) (hJ : WP l Z hB x code maxLocals ret R n1 Q sl H 215 Ls (.int (b01 e 0) :: st)) : WP l Z hB x code maxLocals ret R n1 Q sl H 205 Ls st := by
  refine Wk.iload (pc' := 207) at_205 h1 rfl ?_
  by_cases hc : 0 < e
  · rw [b01, if_pos hc] at hJ
    refine Wk.ifN (pc' := 210) at_207 (XT.i0_le_f hc) rfl ?_
    refine Wk.iconst (pc' := 211) 1 at_210 (by decide) rfl ?_
    refine Wk.goTo (pc' := 215) at_211 (by decide) (by decide) ?_
    exact hJ
  · rw [b01, if_neg hc] at hJ
    refine Wk.ifY (pc' := 214) at_207 (XT.i0_le_t hc) (by decide) (by decide) ?_
    refine Wk.iconst (pc' := 215) 0 at_214 (by decide) rfl ?_
    exact hJ
set_option maxRecDepth 65536 in
set_option maxHeartbeats 40000000 in
theorem sel_215 (l : Launch) (Z : State) (hB : Heap) {R : Room} {n1 sl : Nat} {Q : Option Value → List Rec → Prop} {H : List Rec} {Ls : Array Slot} {st : List Value} {e : Int32} (h1 : Ls[14]? = some (.val (.int e))) (hJ : WP l Z hB x code maxLocals ret R n1 Q sl H 225 Ls (.int (b01 e 0) :: st)) : WP l Z hB x code maxLocals ret R n1 Q sl H 215 Ls st := by
  refine Wk.iload (pc' := 217) at_215 h1 rfl ?_
  by_cases hc : 0 < e
  · rw [b01, if_pos hc] at hJ
    refine Wk.ifN (pc' := 220) at_217 (XT.i0_le_f hc) rfl ?_
    refine Wk.iconst (pc' := 221) 1 at_220 (by decide) rfl ?_
    refine Wk.goTo (pc' := 225) at_221 (by decide) (by decide) ?_
    exact hJ
  · rw [b01, if_neg hc] at hJ
    refine Wk.ifY (pc' := 224) at_217 (XT.i0_le_t hc) (by decide) (by decide) ?_
    refine Wk.iconst (pc' := 225) 0 at_224 (by decide) rfl ?_
    exact hJ
set_option maxRecDepth 65536 in
set_option maxHeartbeats 40000000 in
theorem sel_226 (l : Launch) (Z : State) (hB : Heap) {R : Room} {n1 sl : Nat} {Q : Option Value → List Rec → Prop} {H : List Rec} {Ls : Array Slot} {st : List Value} {e : Int32} (h1 : Ls[15]? = some (.val (.int e))) (hJ : WP l Z hB x code maxLocals ret R n1 Q sl H 236 Ls (.int (b01 e 0) :: st)) : WP l Z hB x code maxLocals ret R n1 Q sl H 226 Ls st := by
  refine Wk.iload (pc' := 228) at_226 h1 rfl ?_
  by_cases hc : 0 < e
  · rw [b01, if_pos hc] at hJ
    refine Wk.ifN (pc' := 231) at_228 (XT.i0_le_f hc) rfl ?_
    refine Wk.iconst (pc' := 232) 1 at_231 (by decide) rfl ?_
    refine Wk.goTo (pc' := 236) at_232 (by decide) (by decide) ?_
    exact hJ
  · rw [b01, if_neg hc] at hJ
    refine Wk.ifY (pc' := 235) at_228 (XT.i0_le_t hc) (by decide) (by decide) ?_
    refine Wk.iconst (pc' := 236) 0 at_235 (by decide) rfl ?_
    exact hJ
set_option maxRecDepth 65536 in
set_option maxHeartbeats 40000000 in
theorem sel_237 (l : Launch) (Z : State) (hB : Heap) {R : Room} {n1 sl : Nat} {Q : Option Value → List Rec → Prop} {H : List Rec} {Ls : Array Slot} {st : List Value} {e : Int32} (h1 : Ls[16]? = some (.val (.int e))) (hJ : WP l Z hB x code maxLocals ret R n1 Q sl H 247 Ls (.int (b01 e 0) :: st)) : WP l Z hB x code maxLocals ret R n1 Q sl H 237 Ls st := by
  refine Wk.iload (pc' := 239) at_237 h1 rfl ?_
  by_cases hc : 0 < e
  · rw [b01, if_pos hc] at hJ
    refine Wk.ifN (pc' := 242) at_239 (XT.i0_le_f hc) rfl ?_
    refine Wk.iconst (pc' := 243) 1 at_242 (by decide) rfl ?_
    refine Wk.goTo (pc' := 247) at_243 (by decide) (by decide) ?_
    exact hJ
  · rw [b01, if_neg hc] at hJ
    refine Wk.ifY (pc' := 246) at_239 (XT.i0_le_t hc) (by decide) (by decide) ?_
    refine Wk.iconst (pc' := 247) 0 at_246 (by decide) rfl ?_
    exact hJ
set_option maxRecDepth 65536 in
set_option maxHeartbeats 40000000 in
theorem sel_368 (l : Launch) (Z : State) (hB : Heap) {R : Room} {n1 sl : Nat} {Q : Option Value → List Rec → Prop} {H : List Rec} {Ls : Array Slot} {st : List Value} {e : Int32} (h1 : Ls[13]? = some (.val (.int e))) {q : Int32} (h2 : Ls[20]? = some (.val (.int q))) (hJ : WP l Z hB x code maxLocals ret R n1 Q sl H 380 Ls (.int (b01 e q) :: st)) : WP l Z hB x code maxLocals ret R n1 Q sl H 368 Ls st := by
  refine Wk.iload (pc' := 370) at_368 h1 rfl ?_
  refine Wk.iload (pc' := 372) at_370 h2 rfl ?_
  by_cases hc : q < e
  · rw [b01, if_pos hc] at hJ
    refine Wk.icN (pc' := 375) at_372 (XT.ii_le_f hc) rfl ?_
    refine Wk.iconst (pc' := 376) 1 at_375 (by decide) rfl ?_
    refine Wk.goTo (pc' := 380) at_376 (by decide) (by decide) ?_
    exact hJ
  · rw [b01, if_neg hc] at hJ
    refine Wk.icY (pc' := 379) at_372 (XT.ii_le_t hc) (by decide) (by decide) ?_
    refine Wk.iconst (pc' := 380) 0 at_379 (by decide) rfl ?_
    exact hJ
set_option maxRecDepth 65536 in
set_option maxHeartbeats 40000000 in
theorem sel_380 (l : Launch) (Z : State) (hB : Heap) {R : Room} {n1 sl : Nat} {Q : Option Value → List Rec → Prop} {H : List Rec} {Ls : Array Slot} {st : List Value} {e : Int32} (h1 : Ls[14]? = some (.val (.int e))) {q : Int32} (h2 : Ls[20]? = some (.val (.int q))) (hJ : WP l Z hB x code maxLocals ret R n1 Q sl H 392 Ls (.int (b01 e q) :: st)) : WP l Z hB x code maxLocals ret R n1 Q sl H 380 Ls st := by
  refine Wk.iload (pc' := 382) at_380 h1 rfl ?_
  refine Wk.iload (pc' := 384) at_382 h2 rfl ?_
  by_cases hc : q < e
  · rw [b01, if_pos hc] at hJ
    refine Wk.icN (pc' := 387) at_384 (XT.ii_le_f hc) rfl ?_
    refine Wk.iconst (pc' := 388) 1 at_387 (by decide) rfl ?_
    refine Wk.goTo (pc' := 392) at_388 (by decide) (by decide) ?_
    exact hJ
  · rw [b01, if_neg hc] at hJ
    refine Wk.icY (pc' := 391) at_384 (XT.ii_le_t hc) (by decide) (by decide) ?_
    refine Wk.iconst (pc' := 392) 0 at_391 (by decide) rfl ?_
    exact hJ
set_option maxRecDepth 65536 in
set_option maxHeartbeats 40000000 in
theorem sel_393 (l : Launch) (Z : State) (hB : Heap) {R : Room} {n1 sl : Nat} {Q : Option Value → List Rec → Prop} {H : List Rec} {Ls : Array Slot} {st : List Value} {e : Int32} (h1 : Ls[15]? = some (.val (.int e))) {q : Int32} (h2 : Ls[20]? = some (.val (.int q))) (hJ : WP l Z hB x code maxLocals ret R n1 Q sl H 405 Ls (.int (b01 e q) :: st)) : WP l Z hB x code maxLocals ret R n1 Q sl H 393 Ls st := by
  refine Wk.iload (pc' := 395) at_393 h1 rfl ?_
  refine Wk.iload (pc' := 397) at_395 h2 rfl ?_
  by_cases hc : q < e
  · rw [b01, if_pos hc] at hJ
    refine Wk.icN (pc' := 400) at_397 (XT.ii_le_f hc) rfl ?_
    refine Wk.iconst (pc' := 401) 1 at_400 (by decide) rfl ?_
    refine Wk.goTo (pc' := 405) at_401 (by decide) (by decide) ?_
    exact hJ
  · rw [b01, if_neg hc] at hJ
    refine Wk.icY (pc' := 404) at_397 (XT.ii_le_t hc) (by decide) (by decide) ?_
    refine Wk.iconst (pc' := 405) 0 at_404 (by decide) rfl ?_
    exact hJ
set_option maxRecDepth 65536 in
set_option maxHeartbeats 40000000 in
theorem sel_406 (l : Launch) (Z : State) (hB : Heap) {R : Room} {n1 sl : Nat} {Q : Option Value → List Rec → Prop} {H : List Rec} {Ls : Array Slot} {st : List Value} {e : Int32} (h1 : Ls[16]? = some (.val (.int e))) {q : Int32} (h2 : Ls[20]? = some (.val (.int q))) (hJ : WP l Z hB x code maxLocals ret R n1 Q sl H 418 Ls (.int (b01 e q) :: st)) : WP l Z hB x code maxLocals ret R n1 Q sl H 406 Ls st := by
  refine Wk.iload (pc' := 408) at_406 h1 rfl ?_
  refine Wk.iload (pc' := 410) at_408 h2 rfl ?_
  by_cases hc : q < e
  · rw [b01, if_pos hc] at hJ
    refine Wk.icN (pc' := 413) at_410 (XT.ii_le_f hc) rfl ?_
    refine Wk.iconst (pc' := 414) 1 at_413 (by decide) rfl ?_
    refine Wk.goTo (pc' := 418) at_414 (by decide) (by decide) ?_
    exact hJ
  · rw [b01, if_neg hc] at hJ
    refine Wk.icY (pc' := 417) at_410 (XT.ii_le_t hc) (by decide) (by decide) ?_
    refine Wk.iconst (pc' := 418) 0 at_417 (by decide) rfl ?_
    exact hJ
theorem msk3 (z : Int32) : ¬ (z &&& 3) < 0 ∧ ¬ 3 < (z &&& 3) := by
  have e := c_mask z 3 2 (by decide) (by decide)
  rw [Int32.lt_iff_toInt_lt, Int32.lt_iff_toInt_lt]; have : (0 : Int32).toInt = 0 := rfl; have : (3 : Int32).toInt = 3 := rfl; omega
set_option maxRecDepth 65536 in
set_option maxHeartbeats 40000000 in
theorem m_71 (l : Launch) (Z : State) (a0 : Array Value) (hw : ∀ d ∈ tables_1, d.before a0 Z = true) (hB : Heap) (cA : Addr) (cc : Cell) (sH : Sta Z hB "java/lang/Integer$IntegerCache" "high" "I" (.int 127)) (sC : Sta Z hB "java/lang/Integer$IntegerCache" "cache" "[Ljava/lang/Integer;" (.ref cA)) (bx : Bxs Z cA cc "java/lang/Integer" "I" 256 (fun j => .int (j - 128))) (hBZ : hB = Z.heap) (bo : Int32 → Addr) (hbo : ∀ k : Int32, ¬ k < 0 → ¬ 3 < k → ¬ (k + 128 < 0 ∨ cc.slots.size ≤ (k + 128).toNatClampNeg) ∧ cc.slots[(k + 128).toNatClampNeg]? = some (.ref (bo k)) ∧ Exa Z hB (bo k) "java/lang/Integer" ∧ Fld Z hB (bo k) "java/lang/Integer" "value" "I" (.int k)) (mr : Addr) (mM : Mir Z "[Ljava/lang/Object;" mr) (x0 x1 x2 x3 p0 p1 p2 p3 m0 m1 m2 m3 : Int32) (n1 n2 n3 n4 : Int32) (o1 w1 t1 o2 w2 t2 o3 w3 t3 o4 w4 t4 : List Int32) (S Y : List Int32) (s1 s2 s3 s4 : Int32) (hP1 : Fm_put (-1 : Int32) [0, 0, 0, 0] [0, 0, 0, 0] [0, 0, 0, 0] p0 m0 = some (n1, o1, w1, t1)) (hP2 : Fm_put n1 o1 w1 t1 p1 m1 = some (n2, o2, w2, t2)) (hP3 : Fm_put n2 o2 w2 t2 p2 m2 = some (n3, o3, w3, t3)) (hP4 : Fm_put n3 o3 w3 t3 p3 m3 = some (n4, o4, w4, t4)) (ht : ∀ z : Int32, ¬ z < 0 → ¬ 3 < z → Wk.gI t4 z = some (expM z p0 p1 p2 p3 m0 m1 m2 m3)) (hch : Chn o4 n4 S) (hS : S.length + 0 ≤ 4) (hSx : ∀ z ∈ S, ¬ z < 0 ∧ ¬ 3 < z) (hpre0 : pre (fun z => expM z p0 p1 p2 p3 m0 m1 m2 m3) 0 S = S) (hk : S.length.toInt32 = ((((b01 (expM (0 : Int32) p0 p1 p2 p3 m0 m1 m2 m3) (0 : Int32)) + (b01 (expM (1 : Int32) p0 p1 p2 p3 m0 m1 m2 m3) (0 : Int32))) + (b01 (expM (2 : Int32) p0 p1 p2 p3 m0 m1 m2 m3) (0 : Int32))) + (b01 (expM (3 : Int32) p0 p1 p2 p3 m0 m1 m2 m3) (0 : Int32)))) (hs1 : stepM S (0 : Int32) (4 : Int32) p0 p1 p2 p3 = s1) (hs2 : stepM S (1 : Int32) s1 p0 p1 p2 p3 = s2) (hs3 : stepM S (2 : Int32) s2 p0 p1 p2 p3 = s3) (hs4 : stepM S (3 : Int32) s3 p0 p1 p2 p3 = s4) (hs5 : ¬ s4 = -9) (hY : pre (fun z => expM z p0 p1 p2 p3 m0 m1 m2 m3) ((m0 - (1 : Int32)) + (x3 &&& (1023 : Int32))) S = Y) (hkq : Y.length.toInt32 = ((((b01 (expM (0 : Int32) p0 p1 p2 p3 m0 m1 m2 m3) ((m0 - (1 : Int32)) + (x3 &&& (1023 : Int32)))) + (b01 (expM (1 : Int32) p0 p1 p2 p3 m0 m1 m2 m3) ((m0 - (1 : Int32)) + (x3 &&& (1023 : Int32))))) + (b01 (expM (2 : Int32) p0 p1 p2 p3 m0 m1 m2 m3) ((m0 - (1 : Int32)) + (x3 &&& (1023 : Int32))))) + (b01 (expM (3 : Int32) p0 p1 p2 p3 m0 m1 m2 m3) ((m0 - (1 : Int32)) + (x3 &&& (1023 : Int32)))))) (hY0 : 0 < ((((b01 (expM (0 : Int32) p0 p1 p2 p3 m0 m1 m2 m3) ((m0 - (1 : Int32)) + (x3 &&& (1023 : Int32)))) + (b01 (expM (1 : Int32) p0 p1 p2 p3 m0 m1 m2 m3) ((m0 - (1 : Int32)) + (x3 &&& (1023 : Int32))))) + (b01 (expM (2 : Int32) p0 p1 p2 p3 m0 m1 m2 m3) ((m0 - (1 : Int32)) + (x3 &&& (1023 : Int32))))) + (b01 (expM (3 : Int32) p0 p1 p2 p3 m0 m1 m2 m3) ((m0 - (1 : Int32)) + (x3 &&& (1023 : Int32))))) → Y[(0 : Int32).toNatClampNeg]? = some p3) (hp3 : ¬ p3 < 0 ∧ ¬ 3 < p3) : WP l Z hB x code maxLocals ret room_1 0 (fun v _ => v = some (.int 1)) 0 [] 71 #[.val (.int x0), .val (.int x1), .val (.int x2), .val (.int x3), .val (.int p0), .val (.int p1), .val (.int p2), .val (.int p3), .val (.int m0), .val (.int m1), .val (.int m2), .val (.int m3), .unset, .unset, .unset, .unset, .unset, .unset, .unset, .unset, .unset, .unset, .unset, .unset, .unset] [] := by
  refine Wk.newObj (pc' := 74) (i := 0) (H' := [obj "com/example/dissect/dissect/RecentPlaces" ksRP [(.int (0 : Int32)), .null, .null, .null]]) at_71 (wd1 hw) (wd2 hw) (wd3 hw) (ksRP_laid hw) (ksRP_dist hw) (Nat.le_of_ble_eq_true rfl) (Nat.le_of_ble_eq_true rfl) rfl rfl rfl ?_
  refine Wk.dup (pc' := 75) at_74 rfl rfl ?_
  refine Wk.iconst (pc' := 76) (4 : Int32) at_75 (by decide) rfl ?_
  refine Wk.callI (pc' := 79) (argsL := [(.int (4 : Int32))]) (st := [(rf hB 0)]) at_76 rfl (wd4 hw) (wd5 hw) (wd3 hw) (wd6 hw) (by decide) (lenOf pd_10 rfl) (m_rinit l Z a0 hw hB) rfl (Nat.le_of_ble_eq_true rfl) (Nat.le_of_ble_eq_true rfl) (Nat.le_of_ble_eq_true rfl) (Nat.le_of_ble_eq_true rfl) rfl rfl ?_
  rintro _ _ ⟨rfl, hH⟩; obtain rfl := hH.symm
  show WP l Z hB _ _ _ _ _ _ _ _ [obj "com/example/dissect/dissect/RecentPlaces" ksRP [(.int (-1 : Int32)), (rf hB 1), (rf hB 2), (rf hB 3)], ints [0, 0, 0, 0], ints [0, 0, 0, 0], ints [0, 0, 0, 0]] _ _ [(rf hB 0)]
  refine Wk.astore (pc' := 81) (Ls' := #[.val (.int x0), .val (.int x1), .val (.int x2), .val (.int x3), .val (.int p0), .val (.int p1), .val (.int p2), .val (.int p3), .val (.int m0), .val (.int m1), .val (.int m2), .val (.int m3), .val (rf hB 0), .unset, .unset, .unset, .unset, .unset, .unset, .unset, .unset, .unset, .unset, .unset, .unset]) at_79 rfl rfl rfl ?_
  refine Wk.aload (pc' := 83) at_81 rfl rfl rfl ?_
  refine Wk.iload (pc' := 85) at_83 rfl rfl ?_
  refine Wk.iload (pc' := 87) at_85 rfl rfl ?_
  refine Wk.callV (pc' := 90) (argsL := [(.int p0), (.int m0)]) (st := []) at_87 (wd19 hw) (wd20 hw) (Wk.nfSel (wd22 hw)) (wd22 hw) (wd21 hw) (wd3 hw) (wd23 hw) (by decide) (lenOf pd_15 rfl) (fun _ P => P.exa rfl) (m_put l Z a0 hw hB (-1 : Int32) [0, 0, 0, 0] [0, 0, 0, 0] [0, 0, 0, 0] p0 m0 (n1, o1, w1, t1) hP1) rfl (Nat.le_of_ble_eq_true rfl) (Nat.le_of_ble_eq_true rfl) (Nat.le_of_ble_eq_true rfl) (Nat.le_of_ble_eq_true rfl) rfl rfl ?_
  rintro _ _ ⟨rfl, hH⟩; obtain rfl := hH.symm
  show WP l Z hB _ _ _ _ _ _ _ _ [obj "com/example/dissect/dissect/RecentPlaces" ksRP [(.int n1), (rf hB 1), (rf hB 2), (rf hB 3)], ints o1, ints w1, ints t1] _ _ []
  refine Wk.aload (pc' := 92) at_90 rfl rfl rfl ?_
  refine Wk.iload (pc' := 94) at_92 rfl rfl ?_
  refine Wk.iload (pc' := 96) at_94 rfl rfl ?_
  refine Wk.callV (pc' := 99) (argsL := [(.int p1), (.int m1)]) (st := []) at_96 (wd19 hw) (wd20 hw) (Wk.nfSel (wd22 hw)) (wd22 hw) (wd21 hw) (wd3 hw) (wd23 hw) (by decide) (lenOf pd_15 rfl) (fun _ P => P.exa rfl) (m_put l Z a0 hw hB n1 o1 w1 t1 p1 m1 (n2, o2, w2, t2) hP2) rfl (Nat.le_of_ble_eq_true rfl) (Nat.le_of_ble_eq_true rfl) (Nat.le_of_ble_eq_true rfl) (Nat.le_of_ble_eq_true rfl) rfl rfl ?_
  rintro _ _ ⟨rfl, hH⟩; obtain rfl := hH.symm
  show WP l Z hB _ _ _ _ _ _ _ _ [obj "com/example/dissect/dissect/RecentPlaces" ksRP [(.int n2), (rf hB 1), (rf hB 2), (rf hB 3)], ints o2, ints w2, ints t2] _ _ []
  refine Wk.aload (pc' := 101) at_99 rfl rfl rfl ?_
  refine Wk.iload (pc' := 103) at_101 rfl rfl ?_
  refine Wk.iload (pc' := 105) at_103 rfl rfl ?_
  refine Wk.callV (pc' := 108) (argsL := [(.int p2), (.int m2)]) (st := []) at_105 (wd19 hw) (wd20 hw) (Wk.nfSel (wd22 hw)) (wd22 hw) (wd21 hw) (wd3 hw) (wd23 hw) (by decide) (lenOf pd_15 rfl) (fun _ P => P.exa rfl) (m_put l Z a0 hw hB n2 o2 w2 t2 p2 m2 (n3, o3, w3, t3) hP3) rfl (Nat.le_of_ble_eq_true rfl) (Nat.le_of_ble_eq_true rfl) (Nat.le_of_ble_eq_true rfl) (Nat.le_of_ble_eq_true rfl) rfl rfl ?_
  rintro _ _ ⟨rfl, hH⟩; obtain rfl := hH.symm
  show WP l Z hB _ _ _ _ _ _ _ _ [obj "com/example/dissect/dissect/RecentPlaces" ksRP [(.int n3), (rf hB 1), (rf hB 2), (rf hB 3)], ints o3, ints w3, ints t3] _ _ []
  refine Wk.aload (pc' := 110) at_108 rfl rfl rfl ?_
  refine Wk.iload (pc' := 112) at_110 rfl rfl ?_
  refine Wk.iload (pc' := 114) at_112 rfl rfl ?_
  refine Wk.callV (pc' := 117) (argsL := [(.int p3), (.int m3)]) (st := []) at_114 (wd19 hw) (wd20 hw) (Wk.nfSel (wd22 hw)) (wd22 hw) (wd21 hw) (wd3 hw) (wd23 hw) (by decide) (lenOf pd_15 rfl) (fun _ P => P.exa rfl) (m_put l Z a0 hw hB n3 o3 w3 t3 p3 m3 (n4, o4, w4, t4) hP4) rfl (Nat.le_of_ble_eq_true rfl) (Nat.le_of_ble_eq_true rfl) (Nat.le_of_ble_eq_true rfl) (Nat.le_of_ble_eq_true rfl) rfl rfl ?_
  rintro _ _ ⟨rfl, hH⟩; obtain rfl := hH.symm
  show WP l Z hB _ _ _ _ _ _ _ _ [obj "com/example/dissect/dissect/RecentPlaces" ksRP [(.int n4), (rf hB 1), (rf hB 2), (rf hB 3)], ints o4, ints w4, ints t4] _ _ []
  refine Wk.iconst (pc' := 118) (0 : Int32) at_117 (by decide) rfl ?_
  refine Wk.iload (pc' := 120) at_118 rfl rfl ?_
  refine Wk.iload (pc' := 122) at_120 rfl rfl ?_
  refine Wk.iload (pc' := 124) at_122 rfl rfl ?_
  refine Wk.iload (pc' := 126) at_124 rfl rfl ?_
  refine Wk.iload (pc' := 128) at_126 rfl rfl ?_
  refine Wk.iload (pc' := 130) at_128 rfl rfl ?_
  refine Wk.iload (pc' := 132) at_130 rfl rfl ?_
  refine Wk.iload (pc' := 134) at_132 rfl rfl ?_
  refine Wk.callS (pc' := 137) (argsL := [(.int (0 : Int32)), (.int p0), (.int p1), (.int p2), (.int p3), (.int m0), (.int m1), (.int m2), (.int m3)]) (st := []) at_134 (wd24 hw) (wd25 hw) (wd26 hw) (wd27 hw) (by decide) (lenOf pd_16 rfl) (m_exp l Z a0 hw hB [obj "com/example/dissect/dissect/RecentPlaces" ksRP [(.int n4), (rf hB 1), (rf hB 2), (rf hB 3)], ints o4, ints w4, ints t4] (0 : Int32) p0 p1 p2 p3 m0 m1 m2 m3) rfl (Nat.le_of_ble_eq_true rfl) (Nat.le_of_ble_eq_true rfl) (Nat.le_of_ble_eq_true rfl) (Nat.le_of_ble_eq_true rfl) rfl rfl ?_
  rintro _ _ ⟨rfl, hH⟩; obtain rfl := hH.symm
  show WP l Z hB _ _ _ _ _ _ _ _ [obj "com/example/dissect/dissect/RecentPlaces" ksRP [(.int n4), (rf hB 1), (rf hB 2), (rf hB 3)], ints o4, ints w4, ints t4] _ _ [(.int (expM (0 : Int32) p0 p1 p2 p3 m0 m1 m2 m3))]
  refine Wk.istore (pc' := 139) (Ls' := #[.val (.int x0), .val (.int x1), .val (.int x2), .val (.int x3), .val (.int p0), .val (.int p1), .val (.int p2), .val (.int p3), .val (.int m0), .val (.int m1), .val (.int m2), .val (.int m3), .val (rf hB 0), .val (.int (expM (0 : Int32) p0 p1 p2 p3 m0 m1 m2 m3)), .unset, .unset, .unset, .unset, .unset, .unset, .unset, .unset, .unset, .unset, .unset]) at_137 rfl rfl ?_
  refine Wk.iconst (pc' := 140) (1 : Int32) at_139 (by decide) rfl ?_
  refine Wk.iload (pc' := 142) at_140 rfl rfl ?_
  refine Wk.iload (pc' := 144) at_142 rfl rfl ?_
  refine Wk.iload (pc' := 146) at_144 rfl rfl ?_
  refine Wk.iload (pc' := 148) at_146 rfl rfl ?_
  refine Wk.iload (pc' := 150) at_148 rfl rfl ?_
  refine Wk.iload (pc' := 152) at_150 rfl rfl ?_
  refine Wk.iload (pc' := 154) at_152 rfl rfl ?_
  refine Wk.iload (pc' := 156) at_154 rfl rfl ?_
  refine Wk.callS (pc' := 159) (argsL := [(.int (1 : Int32)), (.int p0), (.int p1), (.int p2), (.int p3), (.int m0), (.int m1), (.int m2), (.int m3)]) (st := []) at_156 (wd24 hw) (wd25 hw) (wd26 hw) (wd27 hw) (by decide) (lenOf pd_16 rfl) (m_exp l Z a0 hw hB [obj "com/example/dissect/dissect/RecentPlaces" ksRP [(.int n4), (rf hB 1), (rf hB 2), (rf hB 3)], ints o4, ints w4, ints t4] (1 : Int32) p0 p1 p2 p3 m0 m1 m2 m3) rfl (Nat.le_of_ble_eq_true rfl) (Nat.le_of_ble_eq_true rfl) (Nat.le_of_ble_eq_true rfl) (Nat.le_of_ble_eq_true rfl) rfl rfl ?_
  rintro _ _ ⟨rfl, hH⟩; obtain rfl := hH.symm
  show WP l Z hB _ _ _ _ _ _ _ _ [obj "com/example/dissect/dissect/RecentPlaces" ksRP [(.int n4), (rf hB 1), (rf hB 2), (rf hB 3)], ints o4, ints w4, ints t4] _ _ [(.int (expM (1 : Int32) p0 p1 p2 p3 m0 m1 m2 m3))]
  refine Wk.istore (pc' := 161) (Ls' := #[.val (.int x0), .val (.int x1), .val (.int x2), .val (.int x3), .val (.int p0), .val (.int p1), .val (.int p2), .val (.int p3), .val (.int m0), .val (.int m1), .val (.int m2), .val (.int m3), .val (rf hB 0), .val (.int (expM (0 : Int32) p0 p1 p2 p3 m0 m1 m2 m3)), .val (.int (expM (1 : Int32) p0 p1 p2 p3 m0 m1 m2 m3)), .unset, .unset, .unset, .unset, .unset, .unset, .unset, .unset, .unset, .unset]) at_159 rfl rfl ?_
  refine Wk.iconst (pc' := 162) (2 : Int32) at_161 (by decide) rfl ?_
  refine Wk.iload (pc' := 164) at_162 rfl rfl ?_
  refine Wk.iload (pc' := 166) at_164 rfl rfl ?_
  refine Wk.iload (pc' := 168) at_166 rfl rfl ?_
  refine Wk.iload (pc' := 170) at_168 rfl rfl ?_
  refine Wk.iload (pc' := 172) at_170 rfl rfl ?_
  refine Wk.iload (pc' := 174) at_172 rfl rfl ?_
  refine Wk.iload (pc' := 176) at_174 rfl rfl ?_
  refine Wk.iload (pc' := 178) at_176 rfl rfl ?_
  refine Wk.callS (pc' := 181) (argsL := [(.int (2 : Int32)), (.int p0), (.int p1), (.int p2), (.int p3), (.int m0), (.int m1), (.int m2), (.int m3)]) (st := []) at_178 (wd24 hw) (wd25 hw) (wd26 hw) (wd27 hw) (by decide) (lenOf pd_16 rfl) (m_exp l Z a0 hw hB [obj "com/example/dissect/dissect/RecentPlaces" ksRP [(.int n4), (rf hB 1), (rf hB 2), (rf hB 3)], ints o4, ints w4, ints t4] (2 : Int32) p0 p1 p2 p3 m0 m1 m2 m3) rfl (Nat.le_of_ble_eq_true rfl) (Nat.le_of_ble_eq_true rfl) (Nat.le_of_ble_eq_true rfl) (Nat.le_of_ble_eq_true rfl) rfl rfl ?_
  rintro _ _ ⟨rfl, hH⟩; obtain rfl := hH.symm
  show WP l Z hB _ _ _ _ _ _ _ _ [obj "com/example/dissect/dissect/RecentPlaces" ksRP [(.int n4), (rf hB 1), (rf hB 2), (rf hB 3)], ints o4, ints w4, ints t4] _ _ [(.int (expM (2 : Int32) p0 p1 p2 p3 m0 m1 m2 m3))]
  refine Wk.istore (pc' := 183) (Ls' := #[.val (.int x0), .val (.int x1), .val (.int x2), .val (.int x3), .val (.int p0), .val (.int p1), .val (.int p2), .val (.int p3), .val (.int m0), .val (.int m1), .val (.int m2), .val (.int m3), .val (rf hB 0), .val (.int (expM (0 : Int32) p0 p1 p2 p3 m0 m1 m2 m3)), .val (.int (expM (1 : Int32) p0 p1 p2 p3 m0 m1 m2 m3)), .val (.int (expM (2 : Int32) p0 p1 p2 p3 m0 m1 m2 m3)), .unset, .unset, .unset, .unset, .unset, .unset, .unset, .unset, .unset]) at_181 rfl rfl ?_
  refine Wk.iconst (pc' := 184) (3 : Int32) at_183 (by decide) rfl ?_
  refine Wk.iload (pc' := 186) at_184 rfl rfl ?_
  refine Wk.iload (pc' := 188) at_186 rfl rfl ?_
  refine Wk.iload (pc' := 190) at_188 rfl rfl ?_
  refine Wk.iload (pc' := 192) at_190 rfl rfl ?_
  refine Wk.iload (pc' := 194) at_192 rfl rfl ?_
  refine Wk.iload (pc' := 196) at_194 rfl rfl ?_
  refine Wk.iload (pc' := 198) at_196 rfl rfl ?_
  refine Wk.iload (pc' := 200) at_198 rfl rfl ?_
  refine Wk.callS (pc' := 203) (argsL := [(.int (3 : Int32)), (.int p0), (.int p1), (.int p2), (.int p3), (.int m0), (.int m1), (.int m2), (.int m3)]) (st := []) at_200 (wd24 hw) (wd25 hw) (wd26 hw) (wd27 hw) (by decide) (lenOf pd_16 rfl) (m_exp l Z a0 hw hB [obj "com/example/dissect/dissect/RecentPlaces" ksRP [(.int n4), (rf hB 1), (rf hB 2), (rf hB 3)], ints o4, ints w4, ints t4] (3 : Int32) p0 p1 p2 p3 m0 m1 m2 m3) rfl (Nat.le_of_ble_eq_true rfl) (Nat.le_of_ble_eq_true rfl) (Nat.le_of_ble_eq_true rfl) (Nat.le_of_ble_eq_true rfl) rfl rfl ?_
  rintro _ _ ⟨rfl, hH⟩; obtain rfl := hH.symm
  show WP l Z hB _ _ _ _ _ _ _ _ [obj "com/example/dissect/dissect/RecentPlaces" ksRP [(.int n4), (rf hB 1), (rf hB 2), (rf hB 3)], ints o4, ints w4, ints t4] _ _ [(.int (expM (3 : Int32) p0 p1 p2 p3 m0 m1 m2 m3))]
  refine Wk.istore (pc' := 205) (Ls' := #[.val (.int x0), .val (.int x1), .val (.int x2), .val (.int x3), .val (.int p0), .val (.int p1), .val (.int p2), .val (.int p3), .val (.int m0), .val (.int m1), .val (.int m2), .val (.int m3), .val (rf hB 0), .val (.int (expM (0 : Int32) p0 p1 p2 p3 m0 m1 m2 m3)), .val (.int (expM (1 : Int32) p0 p1 p2 p3 m0 m1 m2 m3)), .val (.int (expM (2 : Int32) p0 p1 p2 p3 m0 m1 m2 m3)), .val (.int (expM (3 : Int32) p0 p1 p2 p3 m0 m1 m2 m3)), .unset, .unset, .unset, .unset, .unset, .unset, .unset, .unset]) at_203 rfl rfl ?_
  refine sel_205 l Z hB rfl ?_
  refine sel_215 l Z hB rfl ?_
  refine Wk.iadd (pc' := 226) at_225 rfl ?_
  refine sel_226 l Z hB rfl ?_
  refine Wk.iadd (pc' := 237) at_236 rfl ?_
  refine sel_237 l Z hB rfl ?_
  refine Wk.iadd (pc' := 248) at_247 rfl ?_
  refine Wk.istore (pc' := 250) (Ls' := #[.val (.int x0), .val (.int x1), .val (.int x2), .val (.int x3), .val (.int p0), .val (.int p1), .val (.int p2), .val (.int p3), .val (.int m0), .val (.int m1), .val (.int m2), .val (.int m3), .val (rf hB 0), .val (.int (expM (0 : Int32) p0 p1 p2 p3 m0 m1 m2 m3)), .val (.int (expM (1 : Int32) p0 p1 p2 p3 m0 m1 m2 m3)), .val (.int (expM (2 : Int32) p0 p1 p2 p3 m0 m1 m2 m3)), .val (.int (expM (3 : Int32) p0 p1 p2 p3 m0 m1 m2 m3)), .val (.int ((((b01 (expM (0 : Int32) p0 p1 p2 p3 m0 m1 m2 m3) (0 : Int32)) + (b01 (expM (1 : Int32) p0 p1 p2 p3 m0 m1 m2 m3) (0 : Int32))) + (b01 (expM (2 : Int32) p0 p1 p2 p3 m0 m1 m2 m3) (0 : Int32))) + (b01 (expM (3 : Int32) p0 p1 p2 p3 m0 m1 m2 m3) (0 : Int32)))), .unset, .unset, .unset, .unset, .unset, .unset, .unset]) at_248 rfl rfl ?_
  refine Wk.aload (pc' := 252) at_250 rfl rfl rfl ?_
  refine Wk.iconst (pc' := 253) (0 : Int32) at_252 (by decide) rfl ?_
  refine Wk.callV (pc' := 256) (argsL := [(.int (0 : Int32))]) (st := []) at_253 (wd28 hw) (wd29 hw) (Wk.nfSel (wd31 hw)) (wd31 hw) (wd30 hw) (wd3 hw) (wd32 hw) (by decide) (lenOf pd_17 rfl) (fun _ P => P.exa rfl) (m_since l Z a0 hw hB cA cc sH sC bx hBZ bo hbo mr mM [obj "com/example/dissect/dissect/RecentPlaces" ksRP [(.int n4), (rf hB 1), (rf hB 2), (rf hB 3)], ints o4, ints w4, ints t4] n4 o4 t4 rfl rfl rfl (fun z => expM z p0 p1 p2 p3 m0 m1 m2 m3) ht 0 S hch hS) rfl (Nat.le_of_ble_eq_true rfl) (Nat.le_of_ble_eq_true rfl) (Nat.le_of_ble_eq_true rfl) (Nat.le_of_ble_eq_true rfl) rfl rfl ?_
  rintro _ _ ⟨G1, rfl, hH, hG1, hA1⟩; obtain rfl := hH.symm; rw [hpre0] at hA1; obtain ⟨c1, j1, v1, hi1, he1, hv1, hl1⟩ := hA1
  show WP l Z hB _ _ _ _ _ _ _ _ ([obj "com/example/dissect/dissect/RecentPlaces" ksRP [(.int n4), (rf hB 1), (rf hB 2), (rf hB 3)], ints o4, ints w4, ints t4] ++ G1) _ _ [(rf hB 4)]
  refine Wk.astore (pc' := 258) (Ls' := #[.val (.int x0), .val (.int x1), .val (.int x2), .val (.int x3), .val (.int p0), .val (.int p1), .val (.int p2), .val (.int p3), .val (.int m0), .val (.int m1), .val (.int m2), .val (.int m3), .val (rf hB 0), .val (.int (expM (0 : Int32) p0 p1 p2 p3 m0 m1 m2 m3)), .val (.int (expM (1 : Int32) p0 p1 p2 p3 m0 m1 m2 m3)), .val (.int (expM (2 : Int32) p0 p1 p2 p3 m0 m1 m2 m3)), .val (.int (expM (3 : Int32) p0 p1 p2 p3 m0 m1 m2 m3)), .val (.int ((((b01 (expM (0 : Int32) p0 p1 p2 p3 m0 m1 m2 m3) (0 : Int32)) + (b01 (expM (1 : Int32) p0 p1 p2 p3 m0 m1 m2 m3) (0 : Int32))) + (b01 (expM (2 : Int32) p0 p1 p2 p3 m0 m1 m2 m3) (0 : Int32))) + (b01 (expM (3 : Int32) p0 p1 p2 p3 m0 m1 m2 m3) (0 : Int32)))), .val (rf hB 4), .unset, .unset, .unset, .unset, .unset, .unset]) at_256 rfl rfl rfl ?_
  refine Wk.aload (pc' := 260) at_258 rfl rfl rfl ?_
  refine Wk.callF (pc' := 265) (argsL := []) (st := []) rfl at_260 (wd84 hw) (wd85 hw) (wd86 hw) (wd87 hw) (wd88 hw) (wd89 hw) (wd90 hw) (wd72 hw) (wd35 hw) (wd91 hw) (by decide) (lenOf pd_13 rfl) (fun _ P => P.exa hi1) (m_size l Z a0 hw hB ([obj "com/example/dissect/dissect/RecentPlaces" ksRP [(.int n4), (rf hB 1), (rf hB 2), (rf hB 3)], ints o4, ints w4, ints t4] ++ G1) 4 j1 c1 S.length.toInt32 v1 hi1 he1) rfl (Nat.le_of_ble_eq_true rfl) (Nat.le_of_ble_eq_true rfl) (by simp only [List.length_append, List.length_cons, List.length_nil] <;> (try show _ ≤ 0 + 40) <;> omega) (Nat.le_of_ble_eq_true rfl) rfl rfl ?_
  rintro _ _ ⟨rfl, hH⟩; obtain rfl := hH.symm
  show WP l Z hB _ _ _ _ _ _ _ _ ([obj "com/example/dissect/dissect/RecentPlaces" ksRP [(.int n4), (rf hB 1), (rf hB 2), (rf hB 3)], ints o4, ints w4, ints t4] ++ G1) _ _ [(.int S.length.toInt32)]
  refine Wk.iload (pc' := 267) at_265 rfl rfl ?_
  refine Wk.icY (pc' := 272) at_267 (XT.ii_eq_t hk) (by decide) (by decide) ?_
  refine Wk.iconst (pc' := 273) (4 : Int32) at_272 (by decide) rfl ?_
  refine Wk.istore (pc' := 275) (Ls' := #[.val (.int x0), .val (.int x1), .val (.int x2), .val (.int x3), .val (.int p0), .val (.int p1), .val (.int p2), .val (.int p3), .val (.int m0), .val (.int m1), .val (.int m2), .val (.int m3), .val (rf hB 0), .val (.int (expM (0 : Int32) p0 p1 p2 p3 m0 m1 m2 m3)), .val (.int (expM (1 : Int32) p0 p1 p2 p3 m0 m1 m2 m3)), .val (.int (expM (2 : Int32) p0 p1 p2 p3 m0 m1 m2 m3)), .val (.int (expM (3 : Int32) p0 p1 p2 p3 m0 m1 m2 m3)), .val (.int ((((b01 (expM (0 : Int32) p0 p1 p2 p3 m0 m1 m2 m3) (0 : Int32)) + (b01 (expM (1 : Int32) p0 p1 p2 p3 m0 m1 m2 m3) (0 : Int32))) + (b01 (expM (2 : Int32) p0 p1 p2 p3 m0 m1 m2 m3) (0 : Int32))) + (b01 (expM (3 : Int32) p0 p1 p2 p3 m0 m1 m2 m3) (0 : Int32)))), .val (rf hB 4), .val (.int (4 : Int32)), .unset, .unset, .unset, .unset, .unset]) at_273 rfl rfl ?_
  refine Wk.aload (pc' := 277) at_275 rfl rfl rfl ?_
  refine Wk.iconst (pc' := 278) (0 : Int32) at_277 (by decide) rfl ?_
  refine Wk.iload (pc' := 280) at_278 rfl rfl ?_
  refine Wk.iload (pc' := 282) at_280 rfl rfl ?_
  refine Wk.iload (pc' := 284) at_282 rfl rfl ?_
  refine Wk.iload (pc' := 286) at_284 rfl rfl ?_
  refine Wk.iload (pc' := 288) at_286 rfl rfl ?_
  refine Wk.callS (pc' := 291) (argsL := [(rf hB 4), (.int (0 : Int32)), (.int (4 : Int32)), (.int p0), (.int p1), (.int p2), (.int p3)]) (st := []) at_288 (wd92 hw) (wd93 hw) (wd26 hw) (wd94 hw) (by decide) (lenOf pd_18 rfl) (m_step l Z a0 hw hB cA cc sH sC bx hBZ bo hbo ([obj "com/example/dissect/dissect/RecentPlaces" ksRP [(.int n4), (rf hB 1), (rf hB 2), (rf hB 3)], ints o4, ints w4, ints t4] ++ G1) 4 j1 c1 v1 S hi1 he1 hv1 hl1 hSx (0 : Int32) (4 : Int32) p0 p1 p2 p3 (by decide)) rfl (Nat.le_of_ble_eq_true rfl) (Nat.le_of_ble_eq_true rfl) (by simp only [List.length_append, List.length_cons, List.length_nil] <;> (try show _ ≤ 0 + 40) <;> omega) (Nat.le_of_ble_eq_true rfl) rfl rfl ?_
  rintro _ _ ⟨rfl, hH⟩; obtain rfl := hH.symm; rw [hs1]
  show WP l Z hB _ _ _ _ _ _ _ _ ([obj "com/example/dissect/dissect/RecentPlaces" ksRP [(.int n4), (rf hB 1), (rf hB 2), (rf hB 3)], ints o4, ints w4, ints t4] ++ G1) _ _ [(.int s1)]
  refine Wk.istore (pc' := 293) (Ls' := #[.val (.int x0), .val (.int x1), .val (.int x2), .val (.int x3), .val (.int p0), .val (.int p1), .val (.int p2), .val (.int p3), .val (.int m0), .val (.int m1), .val (.int m2), .val (.int m3), .val (rf hB 0), .val (.int (expM (0 : Int32) p0 p1 p2 p3 m0 m1 m2 m3)), .val (.int (expM (1 : Int32) p0 p1 p2 p3 m0 m1 m2 m3)), .val (.int (expM (2 : Int32) p0 p1 p2 p3 m0 m1 m2 m3)), .val (.int (expM (3 : Int32) p0 p1 p2 p3 m0 m1 m2 m3)), .val (.int ((((b01 (expM (0 : Int32) p0 p1 p2 p3 m0 m1 m2 m3) (0 : Int32)) + (b01 (expM (1 : Int32) p0 p1 p2 p3 m0 m1 m2 m3) (0 : Int32))) + (b01 (expM (2 : Int32) p0 p1 p2 p3 m0 m1 m2 m3) (0 : Int32))) + (b01 (expM (3 : Int32) p0 p1 p2 p3 m0 m1 m2 m3) (0 : Int32)))), .val (rf hB 4), .val (.int s1), .unset, .unset, .unset, .unset, .unset]) at_291 rfl rfl ?_
  refine Wk.aload (pc' := 295) at_293 rfl rfl rfl ?_
  refine Wk.iconst (pc' := 296) (1 : Int32) at_295 (by decide) rfl ?_
  refine Wk.iload (pc' := 298) at_296 rfl rfl ?_
  refine Wk.iload (pc' := 300) at_298 rfl rfl ?_
  refine Wk.iload (pc' := 302) at_300 rfl rfl ?_
  refine Wk.iload (pc' := 304) at_302 rfl rfl ?_
  refine Wk.iload (pc' := 306) at_304 rfl rfl ?_
  refine Wk.callS (pc' := 309) (argsL := [(rf hB 4), (.int (1 : Int32)), (.int s1), (.int p0), (.int p1), (.int p2), (.int p3)]) (st := []) at_306 (wd92 hw) (wd93 hw) (wd26 hw) (wd94 hw) (by decide) (lenOf pd_18 rfl) (m_step l Z a0 hw hB cA cc sH sC bx hBZ bo hbo ([obj "com/example/dissect/dissect/RecentPlaces" ksRP [(.int n4), (rf hB 1), (rf hB 2), (rf hB 3)], ints o4, ints w4, ints t4] ++ G1) 4 j1 c1 v1 S hi1 he1 hv1 hl1 hSx (1 : Int32) s1 p0 p1 p2 p3 (by decide)) rfl (Nat.le_of_ble_eq_true rfl) (Nat.le_of_ble_eq_true rfl) (by simp only [List.length_append, List.length_cons, List.length_nil] <;> (try show _ ≤ 0 + 40) <;> omega) (Nat.le_of_ble_eq_true rfl) rfl rfl ?_
  rintro _ _ ⟨rfl, hH⟩; obtain rfl := hH.symm; rw [hs2]
  show WP l Z hB _ _ _ _ _ _ _ _ ([obj "com/example/dissect/dissect/RecentPlaces" ksRP [(.int n4), (rf hB 1), (rf hB 2), (rf hB 3)], ints o4, ints w4, ints t4] ++ G1) _ _ [(.int s2)]
  refine Wk.istore (pc' := 311) (Ls' := #[.val (.int x0), .val (.int x1), .val (.int x2), .val (.int x3), .val (.int p0), .val (.int p1), .val (.int p2), .val (.int p3), .val (.int m0), .val (.int m1), .val (.int m2), .val (.int m3), .val (rf hB 0), .val (.int (expM (0 : Int32) p0 p1 p2 p3 m0 m1 m2 m3)), .val (.int (expM (1 : Int32) p0 p1 p2 p3 m0 m1 m2 m3)), .val (.int (expM (2 : Int32) p0 p1 p2 p3 m0 m1 m2 m3)), .val (.int (expM (3 : Int32) p0 p1 p2 p3 m0 m1 m2 m3)), .val (.int ((((b01 (expM (0 : Int32) p0 p1 p2 p3 m0 m1 m2 m3) (0 : Int32)) + (b01 (expM (1 : Int32) p0 p1 p2 p3 m0 m1 m2 m3) (0 : Int32))) + (b01 (expM (2 : Int32) p0 p1 p2 p3 m0 m1 m2 m3) (0 : Int32))) + (b01 (expM (3 : Int32) p0 p1 p2 p3 m0 m1 m2 m3) (0 : Int32)))), .val (rf hB 4), .val (.int s2), .unset, .unset, .unset, .unset, .unset]) at_309 rfl rfl ?_
  refine Wk.aload (pc' := 313) at_311 rfl rfl rfl ?_
  refine Wk.iconst (pc' := 314) (2 : Int32) at_313 (by decide) rfl ?_
  refine Wk.iload (pc' := 316) at_314 rfl rfl ?_
  refine Wk.iload (pc' := 318) at_316 rfl rfl ?_
  refine Wk.iload (pc' := 320) at_318 rfl rfl ?_
  refine Wk.iload (pc' := 322) at_320 rfl rfl ?_
  refine Wk.iload (pc' := 324) at_322 rfl rfl ?_
  refine Wk.callS (pc' := 327) (argsL := [(rf hB 4), (.int (2 : Int32)), (.int s2), (.int p0), (.int p1), (.int p2), (.int p3)]) (st := []) at_324 (wd92 hw) (wd93 hw) (wd26 hw) (wd94 hw) (by decide) (lenOf pd_18 rfl) (m_step l Z a0 hw hB cA cc sH sC bx hBZ bo hbo ([obj "com/example/dissect/dissect/RecentPlaces" ksRP [(.int n4), (rf hB 1), (rf hB 2), (rf hB 3)], ints o4, ints w4, ints t4] ++ G1) 4 j1 c1 v1 S hi1 he1 hv1 hl1 hSx (2 : Int32) s2 p0 p1 p2 p3 (by decide)) rfl (Nat.le_of_ble_eq_true rfl) (Nat.le_of_ble_eq_true rfl) (by simp only [List.length_append, List.length_cons, List.length_nil] <;> (try show _ ≤ 0 + 40) <;> omega) (Nat.le_of_ble_eq_true rfl) rfl rfl ?_
  rintro _ _ ⟨rfl, hH⟩; obtain rfl := hH.symm; rw [hs3]
  show WP l Z hB _ _ _ _ _ _ _ _ ([obj "com/example/dissect/dissect/RecentPlaces" ksRP [(.int n4), (rf hB 1), (rf hB 2), (rf hB 3)], ints o4, ints w4, ints t4] ++ G1) _ _ [(.int s3)]
  refine Wk.istore (pc' := 329) (Ls' := #[.val (.int x0), .val (.int x1), .val (.int x2), .val (.int x3), .val (.int p0), .val (.int p1), .val (.int p2), .val (.int p3), .val (.int m0), .val (.int m1), .val (.int m2), .val (.int m3), .val (rf hB 0), .val (.int (expM (0 : Int32) p0 p1 p2 p3 m0 m1 m2 m3)), .val (.int (expM (1 : Int32) p0 p1 p2 p3 m0 m1 m2 m3)), .val (.int (expM (2 : Int32) p0 p1 p2 p3 m0 m1 m2 m3)), .val (.int (expM (3 : Int32) p0 p1 p2 p3 m0 m1 m2 m3)), .val (.int ((((b01 (expM (0 : Int32) p0 p1 p2 p3 m0 m1 m2 m3) (0 : Int32)) + (b01 (expM (1 : Int32) p0 p1 p2 p3 m0 m1 m2 m3) (0 : Int32))) + (b01 (expM (2 : Int32) p0 p1 p2 p3 m0 m1 m2 m3) (0 : Int32))) + (b01 (expM (3 : Int32) p0 p1 p2 p3 m0 m1 m2 m3) (0 : Int32)))), .val (rf hB 4), .val (.int s3), .unset, .unset, .unset, .unset, .unset]) at_327 rfl rfl ?_
  refine Wk.aload (pc' := 331) at_329 rfl rfl rfl ?_
  refine Wk.iconst (pc' := 332) (3 : Int32) at_331 (by decide) rfl ?_
  refine Wk.iload (pc' := 334) at_332 rfl rfl ?_
  refine Wk.iload (pc' := 336) at_334 rfl rfl ?_
  refine Wk.iload (pc' := 338) at_336 rfl rfl ?_
  refine Wk.iload (pc' := 340) at_338 rfl rfl ?_
  refine Wk.iload (pc' := 342) at_340 rfl rfl ?_
  refine Wk.callS (pc' := 345) (argsL := [(rf hB 4), (.int (3 : Int32)), (.int s3), (.int p0), (.int p1), (.int p2), (.int p3)]) (st := []) at_342 (wd92 hw) (wd93 hw) (wd26 hw) (wd94 hw) (by decide) (lenOf pd_18 rfl) (m_step l Z a0 hw hB cA cc sH sC bx hBZ bo hbo ([obj "com/example/dissect/dissect/RecentPlaces" ksRP [(.int n4), (rf hB 1), (rf hB 2), (rf hB 3)], ints o4, ints w4, ints t4] ++ G1) 4 j1 c1 v1 S hi1 he1 hv1 hl1 hSx (3 : Int32) s3 p0 p1 p2 p3 (by decide)) rfl (Nat.le_of_ble_eq_true rfl) (Nat.le_of_ble_eq_true rfl) (by simp only [List.length_append, List.length_cons, List.length_nil] <;> (try show _ ≤ 0 + 40) <;> omega) (Nat.le_of_ble_eq_true rfl) rfl rfl ?_
  rintro _ _ ⟨rfl, hH⟩; obtain rfl := hH.symm; rw [hs4]
  show WP l Z hB _ _ _ _ _ _ _ _ ([obj "com/example/dissect/dissect/RecentPlaces" ksRP [(.int n4), (rf hB 1), (rf hB 2), (rf hB 3)], ints o4, ints w4, ints t4] ++ G1) _ _ [(.int s4)]
  refine Wk.istore (pc' := 347) (Ls' := #[.val (.int x0), .val (.int x1), .val (.int x2), .val (.int x3), .val (.int p0), .val (.int p1), .val (.int p2), .val (.int p3), .val (.int m0), .val (.int m1), .val (.int m2), .val (.int m3), .val (rf hB 0), .val (.int (expM (0 : Int32) p0 p1 p2 p3 m0 m1 m2 m3)), .val (.int (expM (1 : Int32) p0 p1 p2 p3 m0 m1 m2 m3)), .val (.int (expM (2 : Int32) p0 p1 p2 p3 m0 m1 m2 m3)), .val (.int (expM (3 : Int32) p0 p1 p2 p3 m0 m1 m2 m3)), .val (.int ((((b01 (expM (0 : Int32) p0 p1 p2 p3 m0 m1 m2 m3) (0 : Int32)) + (b01 (expM (1 : Int32) p0 p1 p2 p3 m0 m1 m2 m3) (0 : Int32))) + (b01 (expM (2 : Int32) p0 p1 p2 p3 m0 m1 m2 m3) (0 : Int32))) + (b01 (expM (3 : Int32) p0 p1 p2 p3 m0 m1 m2 m3) (0 : Int32)))), .val (rf hB 4), .val (.int s4), .unset, .unset, .unset, .unset, .unset]) at_345 rfl rfl ?_
  refine Wk.iload (pc' := 349) at_347 rfl rfl ?_
  refine Wk.bipush (pc' := 351) (-9 : Int32) at_349 (by decide) rfl ?_
  refine Wk.icY (pc' := 356) at_351 (XT.ii_ne_t hs5) (by decide) (by decide) ?_
  refine Wk.iload (pc' := 358) at_356 rfl rfl ?_
  refine Wk.iconst (pc' := 359) (1 : Int32) at_358 (by decide) rfl ?_
  refine Wk.isub (pc' := 360) at_359 rfl ?_
  refine Wk.iloadN (pc' := 361) at_360 rfl rfl ?_
  refine Wk.sipush (pc' := 364) (1023 : Int32) at_361 (by decide) rfl ?_
  refine Wk.iand (pc' := 365) at_364 rfl ?_
  refine Wk.iadd (pc' := 366) at_365 rfl ?_
  refine Wk.istore (pc' := 368) (Ls' := #[.val (.int x0), .val (.int x1), .val (.int x2), .val (.int x3), .val (.int p0), .val (.int p1), .val (.int p2), .val (.int p3), .val (.int m0), .val (.int m1), .val (.int m2), .val (.int m3), .val (rf hB 0), .val (.int (expM (0 : Int32) p0 p1 p2 p3 m0 m1 m2 m3)), .val (.int (expM (1 : Int32) p0 p1 p2 p3 m0 m1 m2 m3)), .val (.int (expM (2 : Int32) p0 p1 p2 p3 m0 m1 m2 m3)), .val (.int (expM (3 : Int32) p0 p1 p2 p3 m0 m1 m2 m3)), .val (.int ((((b01 (expM (0 : Int32) p0 p1 p2 p3 m0 m1 m2 m3) (0 : Int32)) + (b01 (expM (1 : Int32) p0 p1 p2 p3 m0 m1 m2 m3) (0 : Int32))) + (b01 (expM (2 : Int32) p0 p1 p2 p3 m0 m1 m2 m3) (0 : Int32))) + (b01 (expM (3 : Int32) p0 p1 p2 p3 m0 m1 m2 m3) (0 : Int32)))), .val (rf hB 4), .val (.int s4), .val (.int ((m0 - (1 : Int32)) + (x3 &&& (1023 : Int32)))), .unset, .unset, .unset, .unset]) at_366 rfl rfl ?_
  refine sel_368 l Z hB rfl rfl ?_
  refine sel_380 l Z hB rfl rfl ?_
  refine Wk.iadd (pc' := 393) at_392 rfl ?_
  refine sel_393 l Z hB rfl rfl ?_
  refine Wk.iadd (pc' := 406) at_405 rfl ?_
  refine sel_406 l Z hB rfl rfl ?_
  refine Wk.iadd (pc' := 419) at_418 rfl ?_
  refine Wk.istore (pc' := 421) (Ls' := #[.val (.int x0), .val (.int x1), .val (.int x2), .val (.int x3), .val (.int p0), .val (.int p1), .val (.int p2), .val (.int p3), .val (.int m0), .val (.int m1), .val (.int m2), .val (.int m3), .val (rf hB 0), .val (.int (expM (0 : Int32) p0 p1 p2 p3 m0 m1 m2 m3)), .val (.int (expM (1 : Int32) p0 p1 p2 p3 m0 m1 m2 m3)), .val (.int (expM (2 : Int32) p0 p1 p2 p3 m0 m1 m2 m3)), .val (.int (expM (3 : Int32) p0 p1 p2 p3 m0 m1 m2 m3)), .val (.int ((((b01 (expM (0 : Int32) p0 p1 p2 p3 m0 m1 m2 m3) (0 : Int32)) + (b01 (expM (1 : Int32) p0 p1 p2 p3 m0 m1 m2 m3) (0 : Int32))) + (b01 (expM (2 : Int32) p0 p1 p2 p3 m0 m1 m2 m3) (0 : Int32))) + (b01 (expM (3 : Int32) p0 p1 p2 p3 m0 m1 m2 m3) (0 : Int32)))), .val (rf hB 4), .val (.int s4), .val (.int ((m0 - (1 : Int32)) + (x3 &&& (1023 : Int32)))), .val (.int ((((b01 (expM (0 : Int32) p0 p1 p2 p3 m0 m1 m2 m3) ((m0 - (1 : Int32)) + (x3 &&& (1023 : Int32)))) + (b01 (expM (1 : Int32) p0 p1 p2 p3 m0 m1 m2 m3) ((m0 - (1 : Int32)) + (x3 &&& (1023 : Int32))))) + (b01 (expM (2 : Int32) p0 p1 p2 p3 m0 m1 m2 m3) ((m0 - (1 : Int32)) + (x3 &&& (1023 : Int32))))) + (b01 (expM (3 : Int32) p0 p1 p2 p3 m0 m1 m2 m3) ((m0 - (1 : Int32)) + (x3 &&& (1023 : Int32)))))), .unset, .unset, .unset]) at_419 rfl rfl ?_
  refine Wk.aload (pc' := 423) at_421 rfl rfl rfl ?_
  refine Wk.iload (pc' := 425) at_423 rfl rfl ?_
  refine Wk.callV (pc' := 428) (argsL := [(.int ((m0 - (1 : Int32)) + (x3 &&& (1023 : Int32))))]) (st := []) at_425 (wd28 hw) (wd29 hw) (Wk.nfSel (wd31 hw)) (wd31 hw) (wd30 hw) (wd3 hw) (wd32 hw) (by decide) (lenOf pd_17 rfl) (fun _ P => P.exa rfl) (m_since l Z a0 hw hB cA cc sH sC bx hBZ bo hbo mr mM ([obj "com/example/dissect/dissect/RecentPlaces" ksRP [(.int n4), (rf hB 1), (rf hB 2), (rf hB 3)], ints o4, ints w4, ints t4] ++ G1) n4 o4 t4 rfl rfl rfl (fun z => expM z p0 p1 p2 p3 m0 m1 m2 m3) ht ((m0 - (1 : Int32)) + (x3 &&& (1023 : Int32))) S hch hS) rfl (Nat.le_of_ble_eq_true rfl) (Nat.le_of_ble_eq_true rfl) (by simp only [List.length_append, List.length_cons, List.length_nil] <;> (try show _ ≤ 0 + 40) <;> omega) (Nat.le_of_ble_eq_true rfl) rfl rfl ?_
  rintro _ _ ⟨G2, hv, hH, hG2, hA2⟩; obtain rfl := hH.symm; rw [hY] at hA2; generalize (([obj "com/example/dissect/dissect/RecentPlaces" ksRP [(.int n4), (rf hB 1), (rf hB 2), (rf hB 3)], ints o4, ints w4, ints t4] ++ G1)).length + 0 = i2 at hv hA2; obtain rfl := hv; obtain ⟨c2, j2, v2, hi2, he2, hv2, hl2⟩ := hA2
  show WP l Z hB _ _ _ _ _ _ _ _ (([obj "com/example/dissect/dissect/RecentPlaces" ksRP [(.int n4), (rf hB 1), (rf hB 2), (rf hB 3)], ints o4, ints w4, ints t4] ++ G1) ++ G2) _ _ [(rf hB i2)]
  refine Wk.astore (pc' := 430) (Ls' := #[.val (.int x0), .val (.int x1), .val (.int x2), .val (.int x3), .val (.int p0), .val (.int p1), .val (.int p2), .val (.int p3), .val (.int m0), .val (.int m1), .val (.int m2), .val (.int m3), .val (rf hB 0), .val (.int (expM (0 : Int32) p0 p1 p2 p3 m0 m1 m2 m3)), .val (.int (expM (1 : Int32) p0 p1 p2 p3 m0 m1 m2 m3)), .val (.int (expM (2 : Int32) p0 p1 p2 p3 m0 m1 m2 m3)), .val (.int (expM (3 : Int32) p0 p1 p2 p3 m0 m1 m2 m3)), .val (.int ((((b01 (expM (0 : Int32) p0 p1 p2 p3 m0 m1 m2 m3) (0 : Int32)) + (b01 (expM (1 : Int32) p0 p1 p2 p3 m0 m1 m2 m3) (0 : Int32))) + (b01 (expM (2 : Int32) p0 p1 p2 p3 m0 m1 m2 m3) (0 : Int32))) + (b01 (expM (3 : Int32) p0 p1 p2 p3 m0 m1 m2 m3) (0 : Int32)))), .val (rf hB 4), .val (.int s4), .val (.int ((m0 - (1 : Int32)) + (x3 &&& (1023 : Int32)))), .val (.int ((((b01 (expM (0 : Int32) p0 p1 p2 p3 m0 m1 m2 m3) ((m0 - (1 : Int32)) + (x3 &&& (1023 : Int32)))) + (b01 (expM (1 : Int32) p0 p1 p2 p3 m0 m1 m2 m3) ((m0 - (1 : Int32)) + (x3 &&& (1023 : Int32))))) + (b01 (expM (2 : Int32) p0 p1 p2 p3 m0 m1 m2 m3) ((m0 - (1 : Int32)) + (x3 &&& (1023 : Int32))))) + (b01 (expM (3 : Int32) p0 p1 p2 p3 m0 m1 m2 m3) ((m0 - (1 : Int32)) + (x3 &&& (1023 : Int32)))))), .val (rf hB i2), .unset, .unset]) at_428 rfl rfl rfl ?_
  refine Wk.aload (pc' := 432) at_430 rfl rfl rfl ?_
  refine Wk.callF (pc' := 437) (argsL := []) (st := []) rfl at_432 (wd84 hw) (wd85 hw) (wd86 hw) (wd87 hw) (wd88 hw) (wd89 hw) (wd90 hw) (wd72 hw) (wd35 hw) (wd91 hw) (by decide) (lenOf pd_13 rfl) (fun _ P => P.exa hi2) (m_size l Z a0 hw hB (([obj "com/example/dissect/dissect/RecentPlaces" ksRP [(.int n4), (rf hB 1), (rf hB 2), (rf hB 3)], ints o4, ints w4, ints t4] ++ G1) ++ G2) i2 j2 c2 Y.length.toInt32 v2 hi2 he2) rfl (Nat.le_of_ble_eq_true rfl) (Nat.le_of_ble_eq_true rfl) (by simp only [List.length_append, List.length_cons, List.length_nil] <;> (try show _ ≤ 0 + 40) <;> omega) (Nat.le_of_ble_eq_true rfl) rfl rfl ?_
  rintro _ _ ⟨rfl, hH⟩; obtain rfl := hH.symm
  show WP l Z hB _ _ _ _ _ _ _ _ (([obj "com/example/dissect/dissect/RecentPlaces" ksRP [(.int n4), (rf hB 1), (rf hB 2), (rf hB 3)], ints o4, ints w4, ints t4] ++ G1) ++ G2) _ _ [(.int Y.length.toInt32)]
  refine Wk.iload (pc' := 439) at_437 rfl rfl ?_
  refine Wk.icY (pc' := 444) at_439 (XT.ii_eq_t hkq) (by decide) (by decide) ?_
  refine Wk.iload (pc' := 446) at_444 rfl rfl ?_
  by_cases hc1 : (0 : Int32) < ((((b01 (expM (0 : Int32) p0 p1 p2 p3 m0 m1 m2 m3) ((m0 - (1 : Int32)) + (x3 &&& (1023 : Int32)))) + (b01 (expM (1 : Int32) p0 p1 p2 p3 m0 m1 m2 m3) ((m0 - (1 : Int32)) + (x3 &&& (1023 : Int32))))) + (b01 (expM (2 : Int32) p0 p1 p2 p3 m0 m1 m2 m3) ((m0 - (1 : Int32)) + (x3 &&& (1023 : Int32))))) + (b01 (expM (3 : Int32) p0 p1 p2 p3 m0 m1 m2 m3) ((m0 - (1 : Int32)) + (x3 &&& (1023 : Int32)))))
  ·
    refine Wk.ifN (pc' := 449) at_446 (XT.i0_le_f hc1) rfl ?_
    refine Wk.aload (pc' := 451) at_449 rfl rfl rfl ?_
    refine Wk.iconst (pc' := 452) (0 : Int32) at_451 (by decide) rfl ?_
    refine Wk.callF (pc' := 457) (argsL := [(.int (0 : Int32))]) (st := []) rfl at_452 (wd95 hw) (wd96 hw) (wd97 hw) (wd98 hw) (wd99 hw) (wd100 hw) (wd101 hw) (wd72 hw) (wd35 hw) (wd102 hw) (by decide) (lenOf pd_12 rfl) (fun _ P => P.exa hi2) (m_get l Z a0 hw hB (([obj "com/example/dissect/dissect/RecentPlaces" ksRP [(.int n4), (rf hB 1), (rf hB 2), (rf hB 3)], ints o4, ints w4, ints t4] ++ G1) ++ G2) i2 j2 c2 Y.length.toInt32 v2 hi2 he2 0 (bo p3) (by decide) (hv2 _ p3 (hY0 hc1)) (by rw [hkq]; exact hc1)) rfl (Nat.le_of_ble_eq_true rfl) (Nat.le_of_ble_eq_true rfl) (by simp only [List.length_append, List.length_cons, List.length_nil] <;> (try show _ ≤ 0 + 40) <;> omega) (Nat.le_of_ble_eq_true rfl) rfl rfl ?_
    rintro _ _ ⟨rfl, hH⟩; obtain rfl := hH.symm
    show WP l Z hB _ _ _ _ _ _ _ _ (([obj "com/example/dissect/dissect/RecentPlaces" ksRP [(.int n4), (rf hB 1), (rf hB 2), (rf hB 3)], ints o4, ints w4, ints t4] ++ G1) ++ G2) _ _ [(.ref (bo p3))]
    refine Wk.castTo (pc' := 460) at_457 (wd116 hw) (fun _ P => Ins.self ((hbo p3 hp3.1 hp3.2).2.2.1.ext P.toExt)) rfl ?_
    refine Wk.callV (pc' := 463) (argsL := []) (st := []) at_460 (wd118 hw) (wd119 hw) (Wk.nfSel (wd121 hw)) (wd121 hw) (wd120 hw) (wd60 hw) (wd122 hw) (by decide) (lenOf pd_13 rfl) (fun _ P => (hbo p3 hp3.1 hp3.2).2.2.1.ext P.toExt) (m_intv l Z a0 hw hB (([obj "com/example/dissect/dissect/RecentPlaces" ksRP [(.int n4), (rf hB 1), (rf hB 2), (rf hB 3)], ints o4, ints w4, ints t4] ++ G1) ++ G2) (bo p3) p3 (hbo p3 hp3.1 hp3.2).2.2.2) rfl (Nat.le_of_ble_eq_true rfl) (Nat.le_of_ble_eq_true rfl) (by simp only [List.length_append, List.length_cons, List.length_nil] <;> (try show _ ≤ 0 + 40) <;> omega) (Nat.le_of_ble_eq_true rfl) rfl rfl ?_
    rintro _ _ ⟨rfl, hH⟩; obtain rfl := hH.symm
    show WP l Z hB _ _ _ _ _ _ _ _ (([obj "com/example/dissect/dissect/RecentPlaces" ksRP [(.int n4), (rf hB 1), (rf hB 2), (rf hB 3)], ints o4, ints w4, ints t4] ++ G1) ++ G2) _ _ [(.int p3)]
    refine Wk.iload (pc' := 465) at_463 rfl rfl ?_
    refine Wk.icY (pc' := 470) at_465 (XT.ii_eq_t rfl) (by decide) (by decide) ?_
    refine Wk.iloadN (pc' := 471) at_470 rfl rfl ?_
    refine Wk.bipush (pc' := 473) (10 : Int32) at_471 (by decide) rfl ?_
    refine Wk.iushr (pc' := 474) at_473 rfl ?_
    refine Wk.iconst (pc' := 475) (3 : Int32) at_474 (by decide) rfl ?_
    refine Wk.iand (pc' := 476) at_475 rfl ?_
    refine Wk.istore (pc' := 478) (Ls' := #[.val (.int x0), .val (.int x1), .val (.int x2), .val (.int x3), .val (.int p0), .val (.int p1), .val (.int p2), .val (.int p3), .val (.int m0), .val (.int m1), .val (.int m2), .val (.int m3), .val (rf hB 0), .val (.int (expM (0 : Int32) p0 p1 p2 p3 m0 m1 m2 m3)), .val (.int (expM (1 : Int32) p0 p1 p2 p3 m0 m1 m2 m3)), .val (.int (expM (2 : Int32) p0 p1 p2 p3 m0 m1 m2 m3)), .val (.int (expM (3 : Int32) p0 p1 p2 p3 m0 m1 m2 m3)), .val (.int ((((b01 (expM (0 : Int32) p0 p1 p2 p3 m0 m1 m2 m3) (0 : Int32)) + (b01 (expM (1 : Int32) p0 p1 p2 p3 m0 m1 m2 m3) (0 : Int32))) + (b01 (expM (2 : Int32) p0 p1 p2 p3 m0 m1 m2 m3) (0 : Int32))) + (b01 (expM (3 : Int32) p0 p1 p2 p3 m0 m1 m2 m3) (0 : Int32)))), .val (rf hB 4), .val (.int s4), .val (.int ((m0 - (1 : Int32)) + (x3 &&& (1023 : Int32)))), .val (.int ((((b01 (expM (0 : Int32) p0 p1 p2 p3 m0 m1 m2 m3) ((m0 - (1 : Int32)) + (x3 &&& (1023 : Int32)))) + (b01 (expM (1 : Int32) p0 p1 p2 p3 m0 m1 m2 m3) ((m0 - (1 : Int32)) + (x3 &&& (1023 : Int32))))) + (b01 (expM (2 : Int32) p0 p1 p2 p3 m0 m1 m2 m3) ((m0 - (1 : Int32)) + (x3 &&& (1023 : Int32))))) + (b01 (expM (3 : Int32) p0 p1 p2 p3 m0 m1 m2 m3) ((m0 - (1 : Int32)) + (x3 &&& (1023 : Int32)))))), .val (rf hB i2), .val (.int ((Jvm.Free.XT.ushr x3 (10 : Int32)) &&& (3 : Int32))), .unset]) at_476 rfl rfl ?_
    refine Wk.iload (pc' := 480) at_478 rfl rfl ?_
    refine Wk.iload (pc' := 482) at_480 rfl rfl ?_
    refine Wk.iload (pc' := 484) at_482 rfl rfl ?_
    refine Wk.iload (pc' := 486) at_484 rfl rfl ?_
    refine Wk.iload (pc' := 488) at_486 rfl rfl ?_
    refine Wk.iload (pc' := 490) at_488 rfl rfl ?_
    refine Wk.iload (pc' := 492) at_490 rfl rfl ?_
    refine Wk.iload (pc' := 494) at_492 rfl rfl ?_
    refine Wk.iload (pc' := 496) at_494 rfl rfl ?_
    refine Wk.callS (pc' := 499) (argsL := [(.int ((Jvm.Free.XT.ushr x3 (10 : Int32)) &&& (3 : Int32))), (.int p0), (.int p1), (.int p2), (.int p3), (.int m0), (.int m1), (.int m2), (.int m3)]) (st := []) at_496 (wd24 hw) (wd25 hw) (wd26 hw) (wd27 hw) (by decide) (lenOf pd_16 rfl) (m_exp l Z a0 hw hB (([obj "com/example/dissect/dissect/RecentPlaces" ksRP [(.int n4), (rf hB 1), (rf hB 2), (rf hB 3)], ints o4, ints w4, ints t4] ++ G1) ++ G2) ((Jvm.Free.XT.ushr x3 (10 : Int32)) &&& (3 : Int32)) p0 p1 p2 p3 m0 m1 m2 m3) rfl (Nat.le_of_ble_eq_true rfl) (Nat.le_of_ble_eq_true rfl) (by simp only [List.length_append, List.length_cons, List.length_nil] <;> (try show _ ≤ 0 + 40) <;> omega) (Nat.le_of_ble_eq_true rfl) rfl rfl ?_
    rintro _ _ ⟨rfl, hH⟩; obtain rfl := hH.symm
    show WP l Z hB _ _ _ _ _ _ _ _ (([obj "com/example/dissect/dissect/RecentPlaces" ksRP [(.int n4), (rf hB 1), (rf hB 2), (rf hB 3)], ints o4, ints w4, ints t4] ++ G1) ++ G2) _ _ [(.int (expM ((Jvm.Free.XT.ushr x3 (10 : Int32)) &&& (3 : Int32)) p0 p1 p2 p3 m0 m1 m2 m3))]
    refine Wk.istore (pc' := 501) (Ls' := #[.val (.int x0), .val (.int x1), .val (.int x2), .val (.int x3), .val (.int p0), .val (.int p1), .val (.int p2), .val (.int p3), .val (.int m0), .val (.int m1), .val (.int m2), .val (.int m3), .val (rf hB 0), .val (.int (expM (0 : Int32) p0 p1 p2 p3 m0 m1 m2 m3)), .val (.int (expM (1 : Int32) p0 p1 p2 p3 m0 m1 m2 m3)), .val (.int (expM (2 : Int32) p0 p1 p2 p3 m0 m1 m2 m3)), .val (.int (expM (3 : Int32) p0 p1 p2 p3 m0 m1 m2 m3)), .val (.int ((((b01 (expM (0 : Int32) p0 p1 p2 p3 m0 m1 m2 m3) (0 : Int32)) + (b01 (expM (1 : Int32) p0 p1 p2 p3 m0 m1 m2 m3) (0 : Int32))) + (b01 (expM (2 : Int32) p0 p1 p2 p3 m0 m1 m2 m3) (0 : Int32))) + (b01 (expM (3 : Int32) p0 p1 p2 p3 m0 m1 m2 m3) (0 : Int32)))), .val (rf hB 4), .val (.int s4), .val (.int ((m0 - (1 : Int32)) + (x3 &&& (1023 : Int32)))), .val (.int ((((b01 (expM (0 : Int32) p0 p1 p2 p3 m0 m1 m2 m3) ((m0 - (1 : Int32)) + (x3 &&& (1023 : Int32)))) + (b01 (expM (1 : Int32) p0 p1 p2 p3 m0 m1 m2 m3) ((m0 - (1 : Int32)) + (x3 &&& (1023 : Int32))))) + (b01 (expM (2 : Int32) p0 p1 p2 p3 m0 m1 m2 m3) ((m0 - (1 : Int32)) + (x3 &&& (1023 : Int32))))) + (b01 (expM (3 : Int32) p0 p1 p2 p3 m0 m1 m2 m3) ((m0 - (1 : Int32)) + (x3 &&& (1023 : Int32)))))), .val (rf hB i2), .val (.int ((Jvm.Free.XT.ushr x3 (10 : Int32)) &&& (3 : Int32))), .val (.int (expM ((Jvm.Free.XT.ushr x3 (10 : Int32)) &&& (3 : Int32)) p0 p1 p2 p3 m0 m1 m2 m3))]) at_499 rfl rfl ?_
    refine Wk.aload (pc' := 503) at_501 rfl rfl rfl ?_
    refine Wk.iload (pc' := 505) at_503 rfl rfl ?_
    refine Wk.callV (pc' := 508) (argsL := [(.int ((Jvm.Free.XT.ushr x3 (10 : Int32)) &&& (3 : Int32)))]) (st := []) at_505 (wd128 hw) (wd129 hw) (Wk.nfSel (wd131 hw)) (wd131 hw) (wd130 hw) (wd3 hw) (wd132 hw) (by decide) (lenOf pd_19 rfl) (fun _ P => P.exa rfl) (m_putAt l Z a0 hw hB (([obj "com/example/dissect/dissect/RecentPlaces" ksRP [(.int n4), (rf hB 1), (rf hB 2), (rf hB 3)], ints o4, ints w4, ints t4] ++ G1) ++ G2) n4 ((Jvm.Free.XT.ushr x3 (10 : Int32)) &&& (3 : Int32)) (expM ((Jvm.Free.XT.ushr x3 (10 : Int32)) &&& (3 : Int32)) p0 p1 p2 p3 m0 m1 m2 m3) o4 t4 rfl rfl rfl (ht ((Jvm.Free.XT.ushr x3 (10 : Int32)) &&& (3 : Int32)) (msk3 _).1 (msk3 _).2)) rfl (Nat.le_of_ble_eq_true rfl) (Nat.le_of_ble_eq_true rfl) (by simp only [List.length_append, List.length_cons, List.length_nil] <;> (try show _ ≤ 0 + 40) <;> omega) (Nat.le_of_ble_eq_true rfl) rfl rfl ?_
    rintro _ _ ⟨rfl, hH⟩; obtain rfl := hH.symm
    show WP l Z hB _ _ _ _ _ _ _ _ (([obj "com/example/dissect/dissect/RecentPlaces" ksRP [(.int n4), (rf hB 1), (rf hB 2), (rf hB 3)], ints o4, ints w4, ints t4] ++ G1) ++ G2) _ _ [(.int (expM ((Jvm.Free.XT.ushr x3 (10 : Int32)) &&& (3 : Int32)) p0 p1 p2 p3 m0 m1 m2 m3))]
    refine Wk.iload (pc' := 510) at_508 rfl rfl ?_
    refine Wk.icN (pc' := 513) at_510 (XT.ii_ne_f rfl) rfl ?_
    refine Wk.iconst (pc' := 514) (1 : Int32) at_513 (by decide) rfl ?_
    refine Wk.goTo (pc' := 518) at_514 (by decide) (by decide) ?_
    exact Wk.iret (t := .boolean) at_518 rfl (by simp) rfl (by simp only [List.length_append, List.length_cons, List.length_nil] <;> (try show _ ≤ 0 + 40) <;> omega) (Nat.le_of_ble_eq_true rfl) rfl
  ·
    refine Wk.ifY (pc' := 470) at_446 (XT.i0_le_t hc1) (by decide) (by decide) ?_
    refine Wk.iloadN (pc' := 471) at_470 rfl rfl ?_
    refine Wk.bipush (pc' := 473) (10 : Int32) at_471 (by decide) rfl ?_
    refine Wk.iushr (pc' := 474) at_473 rfl ?_
    refine Wk.iconst (pc' := 475) (3 : Int32) at_474 (by decide) rfl ?_
    refine Wk.iand (pc' := 476) at_475 rfl ?_
    refine Wk.istore (pc' := 478) (Ls' := #[.val (.int x0), .val (.int x1), .val (.int x2), .val (.int x3), .val (.int p0), .val (.int p1), .val (.int p2), .val (.int p3), .val (.int m0), .val (.int m1), .val (.int m2), .val (.int m3), .val (rf hB 0), .val (.int (expM (0 : Int32) p0 p1 p2 p3 m0 m1 m2 m3)), .val (.int (expM (1 : Int32) p0 p1 p2 p3 m0 m1 m2 m3)), .val (.int (expM (2 : Int32) p0 p1 p2 p3 m0 m1 m2 m3)), .val (.int (expM (3 : Int32) p0 p1 p2 p3 m0 m1 m2 m3)), .val (.int ((((b01 (expM (0 : Int32) p0 p1 p2 p3 m0 m1 m2 m3) (0 : Int32)) + (b01 (expM (1 : Int32) p0 p1 p2 p3 m0 m1 m2 m3) (0 : Int32))) + (b01 (expM (2 : Int32) p0 p1 p2 p3 m0 m1 m2 m3) (0 : Int32))) + (b01 (expM (3 : Int32) p0 p1 p2 p3 m0 m1 m2 m3) (0 : Int32)))), .val (rf hB 4), .val (.int s4), .val (.int ((m0 - (1 : Int32)) + (x3 &&& (1023 : Int32)))), .val (.int ((((b01 (expM (0 : Int32) p0 p1 p2 p3 m0 m1 m2 m3) ((m0 - (1 : Int32)) + (x3 &&& (1023 : Int32)))) + (b01 (expM (1 : Int32) p0 p1 p2 p3 m0 m1 m2 m3) ((m0 - (1 : Int32)) + (x3 &&& (1023 : Int32))))) + (b01 (expM (2 : Int32) p0 p1 p2 p3 m0 m1 m2 m3) ((m0 - (1 : Int32)) + (x3 &&& (1023 : Int32))))) + (b01 (expM (3 : Int32) p0 p1 p2 p3 m0 m1 m2 m3) ((m0 - (1 : Int32)) + (x3 &&& (1023 : Int32)))))), .val (rf hB i2), .val (.int ((Jvm.Free.XT.ushr x3 (10 : Int32)) &&& (3 : Int32))), .unset]) at_476 rfl rfl ?_
    refine Wk.iload (pc' := 480) at_478 rfl rfl ?_
    refine Wk.iload (pc' := 482) at_480 rfl rfl ?_
    refine Wk.iload (pc' := 484) at_482 rfl rfl ?_
    refine Wk.iload (pc' := 486) at_484 rfl rfl ?_
    refine Wk.iload (pc' := 488) at_486 rfl rfl ?_
    refine Wk.iload (pc' := 490) at_488 rfl rfl ?_
    refine Wk.iload (pc' := 492) at_490 rfl rfl ?_
    refine Wk.iload (pc' := 494) at_492 rfl rfl ?_
    refine Wk.iload (pc' := 496) at_494 rfl rfl ?_
    refine Wk.callS (pc' := 499) (argsL := [(.int ((Jvm.Free.XT.ushr x3 (10 : Int32)) &&& (3 : Int32))), (.int p0), (.int p1), (.int p2), (.int p3), (.int m0), (.int m1), (.int m2), (.int m3)]) (st := []) at_496 (wd24 hw) (wd25 hw) (wd26 hw) (wd27 hw) (by decide) (lenOf pd_16 rfl) (m_exp l Z a0 hw hB (([obj "com/example/dissect/dissect/RecentPlaces" ksRP [(.int n4), (rf hB 1), (rf hB 2), (rf hB 3)], ints o4, ints w4, ints t4] ++ G1) ++ G2) ((Jvm.Free.XT.ushr x3 (10 : Int32)) &&& (3 : Int32)) p0 p1 p2 p3 m0 m1 m2 m3) rfl (Nat.le_of_ble_eq_true rfl) (Nat.le_of_ble_eq_true rfl) (by simp only [List.length_append, List.length_cons, List.length_nil] <;> (try show _ ≤ 0 + 40) <;> omega) (Nat.le_of_ble_eq_true rfl) rfl rfl ?_
    rintro _ _ ⟨rfl, hH⟩; obtain rfl := hH.symm
    show WP l Z hB _ _ _ _ _ _ _ _ (([obj "com/example/dissect/dissect/RecentPlaces" ksRP [(.int n4), (rf hB 1), (rf hB 2), (rf hB 3)], ints o4, ints w4, ints t4] ++ G1) ++ G2) _ _ [(.int (expM ((Jvm.Free.XT.ushr x3 (10 : Int32)) &&& (3 : Int32)) p0 p1 p2 p3 m0 m1 m2 m3))]
    refine Wk.istore (pc' := 501) (Ls' := #[.val (.int x0), .val (.int x1), .val (.int x2), .val (.int x3), .val (.int p0), .val (.int p1), .val (.int p2), .val (.int p3), .val (.int m0), .val (.int m1), .val (.int m2), .val (.int m3), .val (rf hB 0), .val (.int (expM (0 : Int32) p0 p1 p2 p3 m0 m1 m2 m3)), .val (.int (expM (1 : Int32) p0 p1 p2 p3 m0 m1 m2 m3)), .val (.int (expM (2 : Int32) p0 p1 p2 p3 m0 m1 m2 m3)), .val (.int (expM (3 : Int32) p0 p1 p2 p3 m0 m1 m2 m3)), .val (.int ((((b01 (expM (0 : Int32) p0 p1 p2 p3 m0 m1 m2 m3) (0 : Int32)) + (b01 (expM (1 : Int32) p0 p1 p2 p3 m0 m1 m2 m3) (0 : Int32))) + (b01 (expM (2 : Int32) p0 p1 p2 p3 m0 m1 m2 m3) (0 : Int32))) + (b01 (expM (3 : Int32) p0 p1 p2 p3 m0 m1 m2 m3) (0 : Int32)))), .val (rf hB 4), .val (.int s4), .val (.int ((m0 - (1 : Int32)) + (x3 &&& (1023 : Int32)))), .val (.int ((((b01 (expM (0 : Int32) p0 p1 p2 p3 m0 m1 m2 m3) ((m0 - (1 : Int32)) + (x3 &&& (1023 : Int32)))) + (b01 (expM (1 : Int32) p0 p1 p2 p3 m0 m1 m2 m3) ((m0 - (1 : Int32)) + (x3 &&& (1023 : Int32))))) + (b01 (expM (2 : Int32) p0 p1 p2 p3 m0 m1 m2 m3) ((m0 - (1 : Int32)) + (x3 &&& (1023 : Int32))))) + (b01 (expM (3 : Int32) p0 p1 p2 p3 m0 m1 m2 m3) ((m0 - (1 : Int32)) + (x3 &&& (1023 : Int32)))))), .val (rf hB i2), .val (.int ((Jvm.Free.XT.ushr x3 (10 : Int32)) &&& (3 : Int32))), .val (.int (expM ((Jvm.Free.XT.ushr x3 (10 : Int32)) &&& (3 : Int32)) p0 p1 p2 p3 m0 m1 m2 m3))]) at_499 rfl rfl ?_
    refine Wk.aload (pc' := 503) at_501 rfl rfl rfl ?_
    refine Wk.iload (pc' := 505) at_503 rfl rfl ?_
    refine Wk.callV (pc' := 508) (argsL := [(.int ((Jvm.Free.XT.ushr x3 (10 : Int32)) &&& (3 : Int32)))]) (st := []) at_505 (wd128 hw) (wd129 hw) (Wk.nfSel (wd131 hw)) (wd131 hw) (wd130 hw) (wd3 hw) (wd132 hw) (by decide) (lenOf pd_19 rfl) (fun _ P => P.exa rfl) (m_putAt l Z a0 hw hB (([obj "com/example/dissect/dissect/RecentPlaces" ksRP [(.int n4), (rf hB 1), (rf hB 2), (rf hB 3)], ints o4, ints w4, ints t4] ++ G1) ++ G2) n4 ((Jvm.Free.XT.ushr x3 (10 : Int32)) &&& (3 : Int32)) (expM ((Jvm.Free.XT.ushr x3 (10 : Int32)) &&& (3 : Int32)) p0 p1 p2 p3 m0 m1 m2 m3) o4 t4 rfl rfl rfl (ht ((Jvm.Free.XT.ushr x3 (10 : Int32)) &&& (3 : Int32)) (msk3 _).1 (msk3 _).2)) rfl (Nat.le_of_ble_eq_true rfl) (Nat.le_of_ble_eq_true rfl) (by simp only [List.length_append, List.length_cons, List.length_nil] <;> (try show _ ≤ 0 + 40) <;> omega) (Nat.le_of_ble_eq_true rfl) rfl rfl ?_
    rintro _ _ ⟨rfl, hH⟩; obtain rfl := hH.symm
    show WP l Z hB _ _ _ _ _ _ _ _ (([obj "com/example/dissect/dissect/RecentPlaces" ksRP [(.int n4), (rf hB 1), (rf hB 2), (rf hB 3)], ints o4, ints w4, ints t4] ++ G1) ++ G2) _ _ [(.int (expM ((Jvm.Free.XT.ushr x3 (10 : Int32)) &&& (3 : Int32)) p0 p1 p2 p3 m0 m1 m2 m3))]
    refine Wk.iload (pc' := 510) at_508 rfl rfl ?_
    refine Wk.icN (pc' := 513) at_510 (XT.ii_ne_f rfl) rfl ?_
    refine Wk.iconst (pc' := 514) (1 : Int32) at_513 (by decide) rfl ?_
    refine Wk.goTo (pc' := 518) at_514 (by decide) (by decide) ?_
    exact Wk.iret (t := .boolean) at_518 rfl (by simp) rfl (by simp only [List.length_append, List.length_cons, List.length_nil] <;> (try show _ ≤ 0 + 40) <;> omega) (Nat.le_of_ble_eq_true rfl) rfl
def putN (b : Bool) (n : Int32) (o w : List Int32) (p : Int32) : Option (Int32 × List Int32 × List Int32) :=
    if p = n then (some (n, o, w)) else (if b = true then ((Wk.gI w p).bind fun v3 =>
    (Wk.gI o p).bind fun v4 =>
    (Wk.sI o v3 v4).bind fun l5 =>
    (Wk.gI l5 p).bind fun v6 =>
    if v6 < (0 : Int32) then ((Wk.sI l5 p n).bind fun l7 =>
    (Wk.sI w p (-1 : Int32)).bind fun l8 =>
    if n < (0 : Int32) then (some (p, l7, l8)) else ((Wk.sI l8 n p).bind fun l10 =>
    some (p, l7, l10))) else ((Wk.sI w v6 v3).bind fun l12 =>
    (Wk.sI l5 p n).bind fun l13 =>
    (Wk.sI l12 p (-1 : Int32)).bind fun l14 =>
    if n < (0 : Int32) then (some (p, l13, l14)) else ((Wk.sI l14 n p).bind fun l16 =>
    some (p, l13, l16)))) else ((Wk.sI o p n).bind fun l18 =>
    (Wk.sI w p (-1 : Int32)).bind fun l19 =>
    if n < (0 : Int32) then (some (p, l18, l19)) else ((Wk.sI l19 n p).bind fun l21 =>
    some (p, l18, l21))))
theorem put_of {b : Bool} {n : Int32} {o w t t' : List Int32} {p m v : Int32} (hb : Wk.gI t p = some v) (hv : decide (0 < v) = b) (hs : Wk.sI t p m = some t') {r : Int32 × List Int32 × List Int32} (h : putN b n o w p = some r) : Fm_put n o w t p m = some (r.1, r.2.1, r.2.2, t') := by
  have e : Fm_put n o w t p m = (putN b n o w p).map (fun r => (r.1, r.2.1, r.2.2, t')) := by
    subst hv
    simp only [Fm_put, putN, hb, hs, Option.bind_some, decide_eq_true_eq, apply_ite (Option.map _), Option.map_bind, Option.map_some, Function.comp_def]
  rw [e, h]; rfl
def I4 (a : Fin 4) : Int32 := Int32.ofNat a.val
def TL (f : Int32 → Int32) : List Int32 := [f 0, f 1, f 2, f 3]
theorem gTL (f : Int32 → Int32) : ∀ a : Fin 4, Wk.gI (TL f) (I4 a) = some (f (I4 a))
  | 0 => rfl | 1 => rfl | 2 => rfl | 3 => rfl
theorem sTL (f : Int32 → Int32) (m : Int32) : ∀ a : Fin 4, Wk.sI (TL f) (I4 a) m = some (TL (fun q => if I4 a = q then m else f q))
  | 0 => rfl | 1 => rfl | 2 => rfl | 3 => rfl
theorem dpos {P : Prop} [Decidable P] {m z : Int32} (g : 0 < m) : decide (0 < (if P then m else z)) = (decide P || decide (0 < z)) := by
  by_cases h : P <;> simp [h, g]
def N1 (a0 : Fin 4) := putN false (-1) [0, 0, 0, 0] [0, 0, 0, 0] (I4 a0)
def N2 (a0 a1 : Fin 4) := (N1 a0).bind fun r => putN (decide (I4 a0 = I4 a1) || false) r.1 r.2.1 r.2.2 (I4 a1)
def N3 (a0 a1 a2 : Fin 4) := (N2 a0 a1).bind fun r => putN (decide (I4 a1 = I4 a2) || (decide (I4 a0 = I4 a2) || false)) r.1 r.2.1 r.2.2 (I4 a2)
def N4 (a0 a1 a2 a3 : Fin 4) := (N3 a0 a1 a2).bind fun r => putN (decide (I4 a2 = I4 a3) || (decide (I4 a1 = I4 a3) || (decide (I4 a0 = I4 a3) || false))) r.1 r.2.1 r.2.2 (I4 a3)
def mru (a0 a1 a2 a3 : Fin 4) : List Int32 := I4 a3 :: ((if a2 = a3 then [] else [I4 a2]) ++ ((if a1 = a3 ∨ a1 = a2 then [] else [I4 a1]) ++ (if a0 = a3 ∨ a0 = a2 ∨ a0 = a1 then [] else [I4 a0])))
def chnB (o : List Int32) : Int32 → List Int32 → Bool
  | i, [] => decide (i < 0)
  | i, x :: xs => decide (i = x) && (decide (¬ x < 0) && (decide (¬ 3 < x) && (match Wk.gI o x with | some y => chnB o y xs | none => false)))
theorem chn_of (o : List Int32) : ∀ (S : List Int32) (i : Int32), chnB o i S = true → Chn o i S
  | [], i, h => by show i < 0; simpa [chnB] using h
  | x :: xs, i, h => by
    simp only [chnB, Bool.and_eq_true, decide_eq_true_eq] at h
    obtain ⟨h1, h2, h3, h4⟩ := h
    cases hg : Wk.gI o x with
    | none => rw [hg] at h4; cases h4
    | some y => rw [hg] at h4; exact ⟨h1, h2, h3, y, hg, chn_of o xs y h4⟩
set_option maxRecDepth 100000 in
theorem run_ok : ∀ a0 a1 a2 a3 : Fin 4, (match N4 a0 a1 a2 a3 with | none => false | some r => chnB r.2.1 r.1 (mru a0 a1 a2 a3)) = true := by decide +kernel
def preT (p0 p1 p2 p3 t : Int32) : List Int32 → List Int32
  | [] => []
  | x :: xs => if lastM x p0 p1 p2 p3 < t then [] else x :: preT p0 p1 p2 p3 t xs
theorem pre_T {tv : Int32 → Int32} {q p0 p1 p2 p3 t : Int32} (h : ∀ z, (q < tv z) ↔ ¬ lastM z p0 p1 p2 p3 < t) : ∀ S : List Int32, pre tv q S = preT p0 p1 p2 p3 t S
  | [] => rfl
  | x :: xs => by
    simp only [pre, preT]
    by_cases g : lastM x p0 p1 p2 p3 < t
    · rw [if_pos g, if_neg (fun k => (h x).mp k g)]
    · rw [if_neg g, if_pos ((h x).mpr g), pre_T h xs]
def kT (p0 p1 p2 p3 t : Int32) : Int32 := (((if lastM 0 p0 p1 p2 p3 < t then 0 else 1) + (if lastM 1 p0 p1 p2 p3 < t then 0 else 1)) + (if lastM 2 p0 p1 p2 p3 < t then 0 else 1)) + (if lastM 3 p0 p1 p2 p3 < t then 0 else 1)
def st4 (S : List Int32) (p0 p1 p2 p3 : Int32) : Int32 := stepM S 3 (stepM S 2 (stepM S 1 (stepM S 0 4 p0 p1 p2 p3) p0 p1 p2 p3) p0 p1 p2 p3) p0 p1 p2 p3
set_option maxRecDepth 100000 in
theorem fin_ok : ∀ a0 a1 a2 a3 : Fin 4, (mru a0 a1 a2 a3).length ≤ 4 ∧ (mru a0 a1 a2 a3).all (fun z => decide (¬ z < 0 ∧ ¬ 3 < z)) = true ∧ preT (I4 a0) (I4 a1) (I4 a2) (I4 a3) 0 (mru a0 a1 a2 a3) = mru a0 a1 a2 a3 ∧ ¬ st4 (mru a0 a1 a2 a3) (I4 a0) (I4 a1) (I4 a2) (I4 a3) = -9 := by decide +kernel
set_option maxRecDepth 100000 in
theorem fin_t : ∀ (t : Fin 5) (a0 a1 a2 a3 : Fin 4), (preT (I4 a0) (I4 a1) (I4 a2) (I4 a3) (Int32.ofNat t.val) (mru a0 a1 a2 a3)).length.toInt32 = kT (I4 a0) (I4 a1) (I4 a2) (I4 a3) (Int32.ofNat t.val) ∧ (0 < kT (I4 a0) (I4 a1) (I4 a2) (I4 a3) (Int32.ofNat t.val) → (preT (I4 a0) (I4 a1) (I4 a2) (I4 a3) (Int32.ofNat t.val) (mru a0 a1 a2 a3))[(0 : Int32).toNatClampNeg]? = some (I4 a3)) := by decide +kernel
/-- the moments behind the threshold -/
def Thr (m0 m1 m2 m3 q t : Int32) : Prop := ¬ q < 0 ∧ (-1 : Int32) < t ∧ (q < m0 ↔ ¬ (0 : Int32) < t) ∧ (q < m1 ↔ ¬ (1 : Int32) < t) ∧ (q < m2 ↔ ¬ (2 : Int32) < t) ∧ (q < m3 ↔ ¬ (3 : Int32) < t)
theorem Thr.at {m0 m1 m2 m3 q t p0 p1 p2 p3 : Int32} (h : Thr m0 m1 m2 m3 q t) (z : Int32) : (q < expM z p0 p1 p2 p3 m0 m1 m2 m3) ↔ ¬ lastM z p0 p1 p2 p3 < t := by
  unfold expM lastM
  by_cases g3 : p3 = z
  · rw [if_pos g3, if_pos g3]; exact h.2.2.2.2.2
  · rw [if_neg g3, if_neg g3]
    by_cases g2 : p2 = z
    · rw [if_pos g2, if_pos g2]; exact h.2.2.2.2.1
    · rw [if_neg g2, if_neg g2]
      by_cases g1 : p1 = z
      · rw [if_pos g1, if_pos g1]; exact h.2.2.2.1
      · rw [if_neg g1, if_neg g1]
        by_cases g0 : p0 = z
        · rw [if_pos g0, if_pos g0]; exact h.2.2.1
        · rw [if_neg g0, if_neg g0]; exact ⟨fun k => absurd k h.1, fun k => absurd h.2.1 k⟩
theorem Thr.b {m0 m1 m2 m3 q t p0 p1 p2 p3 : Int32} (h : Thr m0 m1 m2 m3 q t) (z : Int32) : b01 (expM z p0 p1 p2 p3 m0 m1 m2 m3) q = if lastM z p0 p1 p2 p3 < t then 0 else 1 := by
  unfold b01
  by_cases g : lastM z p0 p1 p2 p3 < t
  · rw [if_pos g, if_neg (fun k => (h.at z).mp k g)]
  · rw [if_neg g, if_pos ((h.at z).mpr g)]
theorem thr_ex {m0 m1 m2 m3 q : Int32} (z : ¬ q < 0) (g1 : ¬ m1 < m0) (g2 : ¬ m2 < m1) (g3 : ¬ m3 < m2) : ∃ t : Fin 5, Thr m0 m1 m2 m3 q (Int32.ofNat t.val) := by
  have key : ∀ t : Fin 5, (-1 : Int32) < Int32.ofNat t.val ∧ ((0 : Int32) < Int32.ofNat t.val ↔ 0 < t.val) ∧ ((1 : Int32) < Int32.ofNat t.val ↔ 1 < t.val) ∧ ((2 : Int32) < Int32.ofNat t.val ↔ 2 < t.val) ∧ ((3 : Int32) < Int32.ofNat t.val ↔ 3 < t.val) := by decide
  have mk : ∀ t : Fin 5, (q < m0 ↔ ¬ 0 < t.val) → (q < m1 ↔ ¬ 1 < t.val) → (q < m2 ↔ ¬ 2 < t.val) → (q < m3 ↔ ¬ 3 < t.val) → Thr m0 m1 m2 m3 q (Int32.ofNat t.val) := fun t h0 h1 h2 h3 =>
    ⟨z, (key t).1, by rw [(key t).2.1]; exact h0, by rw [(key t).2.2.1]; exact h1, by rw [(key t).2.2.2.1]; exact h2, by rw [(key t).2.2.2.2]; exact h3⟩
  rw [Int32.lt_iff_toInt_lt] at g1 g2 g3
  simp only [Int32.lt_iff_toInt_lt (x := q)] at mk
  by_cases c0 : q.toInt < m0.toInt
  · exact ⟨0, mk 0 (by simp <;> omega) (by simp <;> omega) (by simp <;> omega) (by simp <;> omega)⟩
  · by_cases c1 : q.toInt < m1.toInt
    · exact ⟨1, mk 1 (by simp <;> omega) (by simp <;> omega) (by simp <;> omega) (by simp <;> omega)⟩
    · by_cases c2 : q.toInt < m2.toInt
      · exact ⟨2, mk 2 (by simp <;> omega) (by simp <;> omega) (by simp <;> omega) (by simp <;> omega)⟩
      · by_cases c3 : q.toInt < m3.toInt
        · exact ⟨3, mk 3 (by simp <;> omega) (by simp <;> omega) (by simp <;> omega) (by simp <;> omega)⟩
        · exact ⟨4, mk 4 (by simp <;> omega) (by simp <;> omega) (by simp <;> omega) (by simp <;> omega)⟩
theorem in4 {z : Int32} (z1 : ¬ z < 0) (z2 : ¬ 3 < z) : ∃ a : Fin 4, z = I4 a := by
  have e0 : (0 : Int32).toInt = 0 := rfl
  have e3 : (3 : Int32).toInt = 3 := rfl
  rw [Int32.lt_iff_toInt_lt] at z1 z2
  have h : z.toInt = 0 ∨ z.toInt = 1 ∨ z.toInt = 2 ∨ z.toInt = 3 := by omega
  rcases h with h | h | h | h
  · exact ⟨0, Int32.toInt_inj.mp h⟩
  · exact ⟨1, Int32.toInt_inj.mp h⟩
  · exact ⟨2, Int32.toInt_inj.mp h⟩
  · exact ⟨3, Int32.toInt_inj.mp h⟩
theorem r4b : ∀ a : Fin 4, ¬ I4 a < 0 ∧ ¬ 3 < I4 a := by decide
theorem bnd {α β : Type} {x : Option α} {f : α → Option β} {r : β} (h : x.bind f = some r) : ∃ a, x = some a ∧ f a = some r := Option.bind_eq_some_iff.mp h
theorem plain (a0 a1 a2 a3 : Fin 4) (p0 p1 p2 p3 m0 m1 m2 m3 q : Int32) (e0 : p0 = I4 a0) (e1 : p1 = I4 a1) (e2 : p2 = I4 a2) (e3 : p3 = I4 a3) (g : 0 < m0) (g1 : ¬ m1 < m0) (g2 : ¬ m2 < m1) (g3 : ¬ m3 < m2) (hq : ¬ q < 0) :
    ∃ n1 o1 w1 t1 n2 o2 w2 t2 n3 o3 w3 t3 n4 o4 w4 t4 S Y s1 s2 s3 s4, (Fm_put (-1 : Int32) [0, 0, 0, 0] [0, 0, 0, 0] [0, 0, 0, 0] p0 m0 = some (n1, o1, w1, t1)) ∧ (Fm_put n1 o1 w1 t1 p1 m1 = some (n2, o2, w2, t2)) ∧ (Fm_put n2 o2 w2 t2 p2 m2 = some (n3, o3, w3, t3)) ∧ (Fm_put n3 o3 w3 t3 p3 m3 = some (n4, o4, w4, t4)) ∧ (∀ z : Int32, ¬ z < 0 → ¬ 3 < z → Wk.gI t4 z = some (expM z p0 p1 p2 p3 m0 m1 m2 m3)) ∧ (Chn o4 n4 S) ∧ (S.length + 0 ≤ 4) ∧ (∀ z ∈ S, ¬ z < 0 ∧ ¬ 3 < z) ∧ (pre (fun z => expM z p0 p1 p2 p3 m0 m1 m2 m3) 0 S = S) ∧ (S.length.toInt32 = ((((b01 (expM (0 : Int32) p0 p1 p2 p3 m0 m1 m2 m3) (0 : Int32)) + (b01 (expM (1 : Int32) p0 p1 p2 p3 m0 m1 m2 m3) (0 : Int32))) + (b01 (expM (2 : Int32) p0 p1 p2 p3 m0 m1 m2 m3) (0 : Int32))) + (b01 (expM (3 : Int32) p0 p1 p2 p3 m0 m1 m2 m3) (0 : Int32)))) ∧ (stepM S (0 : Int32) (4 : Int32) p0 p1 p2 p3 = s1) ∧ (stepM S (1 : Int32) s1 p0 p1 p2 p3 = s2) ∧ (stepM S (2 : Int32) s2 p0 p1 p2 p3 = s3) ∧ (stepM S (3 : Int32) s3 p0 p1 p2 p3 = s4) ∧ (¬ s4 = -9) ∧ (pre (fun z => expM z p0 p1 p2 p3 m0 m1 m2 m3) q S = Y) ∧ (Y.length.toInt32 = ((((b01 (expM (0 : Int32) p0 p1 p2 p3 m0 m1 m2 m3) q) + (b01 (expM (1 : Int32) p0 p1 p2 p3 m0 m1 m2 m3) q)) + (b01 (expM (2 : Int32) p0 p1 p2 p3 m0 m1 m2 m3) q)) + (b01 (expM (3 : Int32) p0 p1 p2 p3 m0 m1 m2 m3) q))) ∧ (0 < ((((b01 (expM (0 : Int32) p0 p1 p2 p3 m0 m1 m2 m3) q) + (b01 (expM (1 : Int32) p0 p1 p2 p3 m0 m1 m2 m3) q)) + (b01 (expM (2 : Int32) p0 p1 p2 p3 m0 m1 m2 m3) q)) + (b01 (expM (3 : Int32) p0 p1 p2 p3 m0 m1 m2 m3) q)) → Y[(0 : Int32).toNatClampNeg]? = some p3) ∧ (¬ p3 < 0 ∧ ¬ 3 < p3) := by
  subst e0 e1 e2 e3
  have z0 : (0 : Int32).toInt = 0 := rfl
  have G1 : 0 < m1 := by rw [Int32.lt_iff_toInt_lt] at *; omega
  have G2 : 0 < m2 := by rw [Int32.lt_iff_toInt_lt] at *; omega
  have G3 : 0 < m3 := by rw [Int32.lt_iff_toInt_lt] at *; omega
  have hr := run_ok a0 a1 a2 a3
  cases h4 : N4 a0 a1 a2 a3 with
  | none => rw [h4] at hr; cases hr
  | some r4 =>
    rw [h4] at hr
    obtain ⟨r3, h3, h4⟩ := bnd h4
    obtain ⟨r2, h2, h3⟩ := bnd h3
    obtain ⟨r1, h1, h2⟩ := bnd h2
    obtain ⟨f1, f2, f3, f4⟩ := fin_ok a0 a1 a2 a3
    obtain ⟨t, ht⟩ := thr_ex hq g1 g2 g3
    have T0 : Thr m0 m1 m2 m3 0 0 := ⟨by decide, by decide, ⟨fun _ => by decide, fun _ => g⟩, ⟨fun _ => by decide, fun _ => G1⟩, ⟨fun _ => by decide, fun _ => G2⟩, ⟨fun _ => by decide, fun _ => G3⟩⟩
    obtain ⟨k1, k2⟩ := fin_t t a0 a1 a2 a3
    obtain ⟨k3, -⟩ := fin_t 0 a0 a1 a2 a3
    have q1 := put_of (gTL (fun _ => 0) a0) rfl (sTL (fun _ => 0) m0 a0) h1
    have q2 := put_of (gTL (fun q => if I4 a0 = q then m0 else 0) a1) (dpos g) (sTL _ m1 a1) h2
    have q3 := put_of (gTL (fun q => if I4 a1 = q then m1 else if I4 a0 = q then m0 else 0) a2) ((dpos G1).trans (by rw [dpos g]; rfl)) (sTL _ m2 a2) h3
    have q4 := put_of (gTL (fun q => if I4 a2 = q then m2 else if I4 a1 = q then m1 else if I4 a0 = q then m0 else 0) a3) ((dpos G2).trans (by rw [dpos G1, dpos g]; rfl)) (sTL _ m3 a3) h4
    refine ⟨_, _, _, _, _, _, _, _, _, _, _, _, _, _, _, _, mru a0 a1 a2 a3, _, _, _, _, _, q1, q2, q3, q4, ?_, chn_of _ _ _ hr, f1, ?_, ?_, ?_, rfl, rfl, rfl, rfl, f4, pre_T ht.at _, ?_, ?_, ?_⟩
    · intro z z1 z2
      obtain ⟨a, rfl⟩ : ∃ a : Fin 4, z = I4 a := in4 z1 z2
      exact gTL (fun z => expM z (I4 a0) (I4 a1) (I4 a2) (I4 a3) m0 m1 m2 m3) a
    · intro z hz
      have := List.all_eq_true.mp f2 z hz
      exact of_decide_eq_true this
    · exact (pre_T T0.at _).trans f3
    · rw [T0.b, T0.b, T0.b, T0.b]; rw [← f3]; exact k3
    · rw [ht.b, ht.b, ht.b, ht.b]; exact k1
    · rw [ht.b, ht.b, ht.b, ht.b]; exact k2
    · exact r4b a3
theorem boxes {Z : State} {hB : Heap} {cA : Addr} {cc : Cell} (bx : Bxs Z cA cc "java/lang/Integer" "I" 256 (fun j => .int (j - 128))) (hBZ : hB = Z.heap) : ∃ bo : Int32 → Addr, ∀ k : Int32, ¬ k < 0 → ¬ 3 < k → ¬ (k + 128 < 0 ∨ cc.slots.size ≤ (k + 128).toNatClampNeg) ∧ cc.slots[(k + 128).toNatClampNeg]? = some (.ref (bo k)) ∧ Exa Z hB (bo k) "java/lang/Integer" ∧ Fld Z hB (bo k) "java/lang/Integer" "value" "I" (.int k) := by
  subst hBZ
  refine ⟨fun k => if h : ¬ k < 0 ∧ ¬ 3 < k then Classical.choose (boxAt bx k (lo128 h.1) (hi127 h.2)).2 else 0, fun k h1 h2 => ?_⟩
  have hk : ¬ k < 0 ∧ ¬ 3 < k := ⟨h1, h2⟩
  simp only [dif_pos hk]
  exact ⟨(boxAt bx k (lo128 h1) (hi127 h2)).1, Classical.choose_spec (boxAt bx k (lo128 h1) (hi127 h2)).2⟩
theorem moments (x u v w : Int32) : 0 < (1 + (x &&& 268435455) : Int32) ∧ ¬ (1 + (x &&& 268435455) + (u &&& 255) : Int32) < 1 + (x &&& 268435455) ∧ ¬ (1 + (x &&& 268435455) + (u &&& 255) + (v &&& 255) : Int32) < 1 + (x &&& 268435455) + (u &&& 255) ∧ ¬ (1 + (x &&& 268435455) + (u &&& 255) + (v &&& 255) + (w &&& 255) : Int32) < 1 + (x &&& 268435455) + (u &&& 255) + (v &&& 255) ∧ ∀ y : Int32, ¬ ((1 + (x &&& 268435455)) - 1 + (y &&& 1023) : Int32) < 0 := by
  have e1 : (1 : Int32).toInt = 1 := rfl
  have e0 : (0 : Int32).toInt = 0 := rfl
  have a := c_mask x 268435455 28 (by decide) (by decide)
  have b := c_mask u 255 8 (by decide) (by decide)
  have c := c_mask v 255 8 (by decide) (by decide)
  have d := c_mask w 255 8 (by decide) (by decide)
  generalize x &&& 268435455 = X at a ⊢
  generalize u &&& 255 = U at b ⊢
  generalize v &&& 255 = V at c ⊢
  generalize w &&& 255 = W at d ⊢
  have s1 := c_iadd 1 X
  have s2 := c_iadd (1 + X) U
  have s3 := c_iadd (1 + X + U) V
  have s4 := c_iadd (1 + X + U + V) W
  have s5 := c_isub (1 + X) 1
  have r1 := rng32 (1 + X)
  have r2 := rng32 (1 + X + U)
  have r3 := rng32 (1 + X + U + V)
  have r4 := rng32 (1 + X + U + V + W)
  have r5 := rng32 (1 + X - 1)
  simp only [Int32.lt_iff_toInt_lt]
  refine ⟨by omega, by omega, by omega, by omega, fun y => ?_⟩
  have f := c_mask y 1023 10 (by decide) (by decide)
  generalize y &&& 1023 = Y at f ⊢
  have s6 := c_iadd (1 + X - 1) Y
  have r6 := rng32 (1 + X - 1 + Y)
  omega
set_option maxRecDepth 65536 in
set_option maxHeartbeats 40000000 in
theorem m_law (l : Launch) (Z : State) (a0 : Array Value) (hw : ∀ d ∈ tables_1, d.before a0 Z = true) (hB : Heap) (x0 x1 x2 x3 : Int32) (cA : Addr) (cc : Cell) (sH : Sta Z hB "java/lang/Integer$IntegerCache" "high" "I" (.int 127)) (sC : Sta Z hB "java/lang/Integer$IntegerCache" "cache" "[Ljava/lang/Integer;" (.ref cA)) (bx : Bxs Z cA cc "java/lang/Integer" "I" 256 (fun j => .int (j - 128))) (hBZ : hB = Z.heap) (mr : Addr) (mM : Mir Z "[Ljava/lang/Object;" mr) : Ctr l Z hB x code maxLocals ret tables_1 room_1 #[(.int x0), (.int x1), (.int x2), (.int x3)] [] (fun v _ => v = some (.int 1)) := by
  refine Wk.ctr pn_26 (Ls := #[.val (.int x0), .val (.int x1), .val (.int x2), .val (.int x3), .unset, .unset, .unset, .unset, .unset, .unset, .unset, .unset, .unset, .unset, .unset, .unset, .unset, .unset, .unset, .unset, .unset, .unset, .unset, .unset, .unset]) (fun m => by first | (simp [entryFrame, mkF, argsToLocals, Value.category, maxLocals]; done) | rfl) ?_
  refine Wk.iloadN (pc' := 1) at_0 rfl rfl ?_
  refine Wk.iconst (pc' := 2) (3 : Int32) at_1 (by decide) rfl ?_
  refine Wk.iand (pc' := 3) at_2 rfl ?_
  refine Wk.istore (pc' := 5) (Ls' := #[.val (.int x0), .val (.int x1), .val (.int x2), .val (.int x3), .val (.int (x0 &&& (3 : Int32))), .unset, .unset, .unset, .unset, .unset, .unset, .unset, .unset, .unset, .unset, .unset, .unset, .unset, .unset, .unset, .unset, .unset, .unset, .unset, .unset]) at_3 rfl rfl ?_
  refine Wk.iloadN (pc' := 6) at_5 rfl rfl ?_
  refine Wk.iconst (pc' := 7) (2 : Int32) at_6 (by decide) rfl ?_
  refine Wk.iushr (pc' := 8) at_7 rfl ?_
  refine Wk.iconst (pc' := 9) (3 : Int32) at_8 (by decide) rfl ?_
  refine Wk.iand (pc' := 10) at_9 rfl ?_
  refine Wk.istore (pc' := 12) (Ls' := #[.val (.int x0), .val (.int x1), .val (.int x2), .val (.int x3), .val (.int (x0 &&& (3 : Int32))), .val (.int ((Jvm.Free.XT.ushr x0 (2 : Int32)) &&& (3 : Int32))), .unset, .unset, .unset, .unset, .unset, .unset, .unset, .unset, .unset, .unset, .unset, .unset, .unset, .unset, .unset, .unset, .unset, .unset, .unset]) at_10 rfl rfl ?_
  refine Wk.iloadN (pc' := 13) at_12 rfl rfl ?_
  refine Wk.iconst (pc' := 14) (4 : Int32) at_13 (by decide) rfl ?_
  refine Wk.iushr (pc' := 15) at_14 rfl ?_
  refine Wk.iconst (pc' := 16) (3 : Int32) at_15 (by decide) rfl ?_
  refine Wk.iand (pc' := 17) at_16 rfl ?_
  refine Wk.istore (pc' := 19) (Ls' := #[.val (.int x0), .val (.int x1), .val (.int x2), .val (.int x3), .val (.int (x0 &&& (3 : Int32))), .val (.int ((Jvm.Free.XT.ushr x0 (2 : Int32)) &&& (3 : Int32))), .val (.int ((Jvm.Free.XT.ushr x0 (4 : Int32)) &&& (3 : Int32))), .unset, .unset, .unset, .unset, .unset, .unset, .unset, .unset, .unset, .unset, .unset, .unset, .unset, .unset, .unset, .unset, .unset, .unset]) at_17 rfl rfl ?_
  refine Wk.iloadN (pc' := 20) at_19 rfl rfl ?_
  refine Wk.bipush (pc' := 22) (6 : Int32) at_20 (by decide) rfl ?_
  refine Wk.iushr (pc' := 23) at_22 rfl ?_
  refine Wk.iconst (pc' := 24) (3 : Int32) at_23 (by decide) rfl ?_
  refine Wk.iand (pc' := 25) at_24 rfl ?_
  refine Wk.istore (pc' := 27) (Ls' := #[.val (.int x0), .val (.int x1), .val (.int x2), .val (.int x3), .val (.int (x0 &&& (3 : Int32))), .val (.int ((Jvm.Free.XT.ushr x0 (2 : Int32)) &&& (3 : Int32))), .val (.int ((Jvm.Free.XT.ushr x0 (4 : Int32)) &&& (3 : Int32))), .val (.int ((Jvm.Free.XT.ushr x0 (6 : Int32)) &&& (3 : Int32))), .unset, .unset, .unset, .unset, .unset, .unset, .unset, .unset, .unset, .unset, .unset, .unset, .unset, .unset, .unset, .unset, .unset]) at_25 rfl rfl ?_
  refine Wk.iconst (pc' := 28) (1 : Int32) at_27 (by decide) rfl ?_
  refine Wk.iloadN (pc' := 29) at_28 rfl rfl ?_
  refine Wk.ldcInt (pc' := 31) at_29 (wd0 hw) rfl ?_
  refine Wk.iand (pc' := 32) at_31 rfl ?_
  refine Wk.iadd (pc' := 33) at_32 rfl ?_
  refine Wk.istore (pc' := 35) (Ls' := #[.val (.int x0), .val (.int x1), .val (.int x2), .val (.int x3), .val (.int (x0 &&& (3 : Int32))), .val (.int ((Jvm.Free.XT.ushr x0 (2 : Int32)) &&& (3 : Int32))), .val (.int ((Jvm.Free.XT.ushr x0 (4 : Int32)) &&& (3 : Int32))), .val (.int ((Jvm.Free.XT.ushr x0 (6 : Int32)) &&& (3 : Int32))), .val (.int ((1 : Int32) + (x1 &&& (268435455 : Int32)))), .unset, .unset, .unset, .unset, .unset, .unset, .unset, .unset, .unset, .unset, .unset, .unset, .unset, .unset, .unset, .unset]) at_33 rfl rfl ?_
  refine Wk.iload (pc' := 37) at_35 rfl rfl ?_
  refine Wk.iloadN (pc' := 38) at_37 rfl rfl ?_
  refine Wk.sipush (pc' := 41) (255 : Int32) at_38 (by decide) rfl ?_
  refine Wk.iand (pc' := 42) at_41 rfl ?_
  refine Wk.iadd (pc' := 43) at_42 rfl ?_
  refine Wk.istore (pc' := 45) (Ls' := #[.val (.int x0), .val (.int x1), .val (.int x2), .val (.int x3), .val (.int (x0 &&& (3 : Int32))), .val (.int ((Jvm.Free.XT.ushr x0 (2 : Int32)) &&& (3 : Int32))), .val (.int ((Jvm.Free.XT.ushr x0 (4 : Int32)) &&& (3 : Int32))), .val (.int ((Jvm.Free.XT.ushr x0 (6 : Int32)) &&& (3 : Int32))), .val (.int ((1 : Int32) + (x1 &&& (268435455 : Int32)))), .val (.int (((1 : Int32) + (x1 &&& (268435455 : Int32))) + (x2 &&& (255 : Int32)))), .unset, .unset, .unset, .unset, .unset, .unset, .unset, .unset, .unset, .unset, .unset, .unset, .unset, .unset, .unset]) at_43 rfl rfl ?_
  refine Wk.iload (pc' := 47) at_45 rfl rfl ?_
  refine Wk.iloadN (pc' := 48) at_47 rfl rfl ?_
  refine Wk.bipush (pc' := 50) (8 : Int32) at_48 (by decide) rfl ?_
  refine Wk.iushr (pc' := 51) at_50 rfl ?_
  refine Wk.sipush (pc' := 54) (255 : Int32) at_51 (by decide) rfl ?_
  refine Wk.iand (pc' := 55) at_54 rfl ?_
  refine Wk.iadd (pc' := 56) at_55 rfl ?_
  refine Wk.istore (pc' := 58) (Ls' := #[.val (.int x0), .val (.int x1), .val (.int x2), .val (.int x3), .val (.int (x0 &&& (3 : Int32))), .val (.int ((Jvm.Free.XT.ushr x0 (2 : Int32)) &&& (3 : Int32))), .val (.int ((Jvm.Free.XT.ushr x0 (4 : Int32)) &&& (3 : Int32))), .val (.int ((Jvm.Free.XT.ushr x0 (6 : Int32)) &&& (3 : Int32))), .val (.int ((1 : Int32) + (x1 &&& (268435455 : Int32)))), .val (.int (((1 : Int32) + (x1 &&& (268435455 : Int32))) + (x2 &&& (255 : Int32)))), .val (.int ((((1 : Int32) + (x1 &&& (268435455 : Int32))) + (x2 &&& (255 : Int32))) + ((Jvm.Free.XT.ushr x2 (8 : Int32)) &&& (255 : Int32)))), .unset, .unset, .unset, .unset, .unset, .unset, .unset, .unset, .unset, .unset, .unset, .unset, .unset, .unset]) at_56 rfl rfl ?_
  refine Wk.iload (pc' := 60) at_58 rfl rfl ?_
  refine Wk.iloadN (pc' := 61) at_60 rfl rfl ?_
  refine Wk.bipush (pc' := 63) (16 : Int32) at_61 (by decide) rfl ?_
  refine Wk.iushr (pc' := 64) at_63 rfl ?_
  refine Wk.sipush (pc' := 67) (255 : Int32) at_64 (by decide) rfl ?_
  refine Wk.iand (pc' := 68) at_67 rfl ?_
  refine Wk.iadd (pc' := 69) at_68 rfl ?_
  refine Wk.istore (pc' := 71) (Ls' := #[.val (.int x0), .val (.int x1), .val (.int x2), .val (.int x3), .val (.int (x0 &&& (3 : Int32))), .val (.int ((Jvm.Free.XT.ushr x0 (2 : Int32)) &&& (3 : Int32))), .val (.int ((Jvm.Free.XT.ushr x0 (4 : Int32)) &&& (3 : Int32))), .val (.int ((Jvm.Free.XT.ushr x0 (6 : Int32)) &&& (3 : Int32))), .val (.int ((1 : Int32) + (x1 &&& (268435455 : Int32)))), .val (.int (((1 : Int32) + (x1 &&& (268435455 : Int32))) + (x2 &&& (255 : Int32)))), .val (.int ((((1 : Int32) + (x1 &&& (268435455 : Int32))) + (x2 &&& (255 : Int32))) + ((Jvm.Free.XT.ushr x2 (8 : Int32)) &&& (255 : Int32)))), .val (.int (((((1 : Int32) + (x1 &&& (268435455 : Int32))) + (x2 &&& (255 : Int32))) + ((Jvm.Free.XT.ushr x2 (8 : Int32)) &&& (255 : Int32))) + ((Jvm.Free.XT.ushr x2 (16 : Int32)) &&& (255 : Int32)))), .unset, .unset, .unset, .unset, .unset, .unset, .unset, .unset, .unset, .unset, .unset, .unset, .unset]) at_69 rfl rfl ?_
  obtain ⟨bo, hbo⟩ := boxes bx hBZ
  obtain ⟨a0', ea0⟩ := in4 (msk3 x0).1 (msk3 x0).2
  obtain ⟨a1', ea1⟩ := in4 (msk3 (Jvm.Free.XT.ushr x0 (2 : Int32))).1 (msk3 (Jvm.Free.XT.ushr x0 (2 : Int32))).2
  obtain ⟨a2', ea2⟩ := in4 (msk3 (Jvm.Free.XT.ushr x0 (4 : Int32))).1 (msk3 (Jvm.Free.XT.ushr x0 (4 : Int32))).2
  obtain ⟨a3', ea3⟩ := in4 (msk3 (Jvm.Free.XT.ushr x0 (6 : Int32))).1 (msk3 (Jvm.Free.XT.ushr x0 (6 : Int32))).2
  obtain ⟨g0, g1, g2, g3, gq⟩ := moments x1 x2 (Jvm.Free.XT.ushr x2 8) (Jvm.Free.XT.ushr x2 16)
  obtain ⟨n1, o1, w1, t1, n2, o2, w2, t2, n3, o3, w3, t3, n4, o4, w4, t4, S, Y, s1, s2, s3, s4, hP1, hP2, hP3, hP4, ht, hch, hS, hSx, hpre0, hk, hs1, hs2, hs3, hs4, hs5, hY, hkq, hY0, hp3⟩ := plain a0' a1' a2' a3' (x0 &&& (3 : Int32)) ((Jvm.Free.XT.ushr x0 (2 : Int32)) &&& (3 : Int32)) ((Jvm.Free.XT.ushr x0 (4 : Int32)) &&& (3 : Int32)) ((Jvm.Free.XT.ushr x0 (6 : Int32)) &&& (3 : Int32)) ((1 : Int32) + (x1 &&& (268435455 : Int32))) (((1 : Int32) + (x1 &&& (268435455 : Int32))) + (x2 &&& (255 : Int32))) ((((1 : Int32) + (x1 &&& (268435455 : Int32))) + (x2 &&& (255 : Int32))) + ((Jvm.Free.XT.ushr x2 (8 : Int32)) &&& (255 : Int32))) (((((1 : Int32) + (x1 &&& (268435455 : Int32))) + (x2 &&& (255 : Int32))) + ((Jvm.Free.XT.ushr x2 (8 : Int32)) &&& (255 : Int32))) + ((Jvm.Free.XT.ushr x2 (16 : Int32)) &&& (255 : Int32))) ((((1 : Int32) + (x1 &&& (268435455 : Int32))) - (1 : Int32)) + (x3 &&& (1023 : Int32))) ea0 ea1 ea2 ea3 g0 g1 g2 g3 (gq x3)
  exact m_71 l Z a0 hw hB cA cc sH sC bx hBZ bo hbo mr mM x0 x1 x2 x3 (x0 &&& (3 : Int32)) ((Jvm.Free.XT.ushr x0 (2 : Int32)) &&& (3 : Int32)) ((Jvm.Free.XT.ushr x0 (4 : Int32)) &&& (3 : Int32)) ((Jvm.Free.XT.ushr x0 (6 : Int32)) &&& (3 : Int32)) ((1 : Int32) + (x1 &&& (268435455 : Int32))) (((1 : Int32) + (x1 &&& (268435455 : Int32))) + (x2 &&& (255 : Int32))) ((((1 : Int32) + (x1 &&& (268435455 : Int32))) + (x2 &&& (255 : Int32))) + ((Jvm.Free.XT.ushr x2 (8 : Int32)) &&& (255 : Int32))) (((((1 : Int32) + (x1 &&& (268435455 : Int32))) + (x2 &&& (255 : Int32))) + ((Jvm.Free.XT.ushr x2 (8 : Int32)) &&& (255 : Int32))) + ((Jvm.Free.XT.ushr x2 (16 : Int32)) &&& (255 : Int32))) n1 n2 n3 n4 o1 w1 t1 o2 w2 t2 o3 w3 t3 o4 w4 t4 S Y s1 s2 s3 s4 hP1 hP2 hP3 hP4 ht hch hS hSx hpre0 hk hs1 hs2 hs3 hs4 hs5 hY hkq hY0 hp3
set_option maxRecDepth 65536 in
set_option maxHeartbeats 40000000 in
theorem comes_1 {Post : Tables → Env → Array Value → State → Outcome → State → Prop} (hpost : ∀ tb e args s v u, (limb_1_1.after args s (.returned v) u = true ∧ limb_1_2.after args s (.returned v) u = true ∧ True) → FrameEnd s (.returned v) u (Jvm.fieldLocs frame_1_writes args s ++ Jvm.arrayLocs frame_1_arrays args s ++ Jvm.staticLocs frame_1_statics s) 40 192 → Post tb e args s (.returned v) u) :
    ArmFor flags0 classFile x code maxLocals ret World_1 tables_1 room_1 Calls_1 rest_1 Pre_1 Post := by
  intro l hfl _ _ p e ha hc hk s m args below hf hA hF happ hP
  obtain ⟨hcalls, hrest, hpre⟩ := hP
  obtain ⟨-, -, -, hnamed, -, -, -, hat⟩ := (Spec.applies_iff hf).mp happ
  obtain ⟨hg, hn⟩ := and_e (Cond.before_iff.mp (show (Jvm.Cond.and given_1 narrow_1).before args s = true from hpre))
  obtain ⟨h1, h2⟩ := and_e hg
  obtain ⟨w0, w1, w2, w3, rfl⟩ : ∃ w0 w1 w2 w3 : Value, args = #[w0, w1, w2, w3] := by
    have hs : args.size = 4 := by simpa [Cond.value, given_1] using h1
    obtain ⟨L⟩ := args
    match L, hs with
    | [w0, w1, w2, w3], _ => exact ⟨w0, w1, w2, w3, rfl⟩
  have hw := fun d (hd : d ∈ tables_1) => atoms_spec (ws := Jvm.Cond.code x code maxLocals ret :: tables_1) hat d (List.mem_cons_of_mem _ hd)
  have hfit : Fit s := fun {y c} hc i hi => by
    obtain ⟨ha, rfl⟩ := Array.getElem?_eq_some_iff.mp hc
    have q := List.all_eq_true.mp ((Array.all_eq_true_iff_forall_mem.mp hF) _ (Array.getElem_mem ha)) i (List.mem_range.mpr hi)
    simpa [Array.getElem?_eq_getElem hi] using q
  obtain ⟨g0, r0⟩ := and_e h2
  obtain ⟨i0, e0⟩ := is_v g0
  obtain rfl : w0 = (.int i0) := Option.some.inj e0
  obtain ⟨g1, r1⟩ := and_e r0
  obtain ⟨i1, e1⟩ := is_v g1
  obtain rfl : w1 = (.int i1) := Option.some.inj e1
  obtain ⟨g2, r2⟩ := and_e r1
  obtain ⟨i2, e2⟩ := is_v g2
  obtain rfl : w2 = (.int i2) := Option.some.inj e2
  obtain ⟨i3, e3⟩ := is_v r2
  obtain rfl : w3 = (.int i3) := Option.some.inj e3
  obtain ⟨hsets, -⟩ := atoms_of jdkStatics_1 (show (jdkStatics_1.foldr Jvm.Cond.and restOwn_1).before _ s = true from (by rw [← rest_1_c_eq]; exact hrest))
  have t3 := Cond.before_iff.mp (hsets _ (List.mem_of_getElem? (i := 3) rfl))
  have t4 := Cond.before_iff.mp (hsets _ (List.mem_of_getElem? (i := 4) rfl))
  have t6 := Cond.before_iff.mp (hsets _ (List.mem_of_getElem? (i := 6) rfl))
  have t7 := Cond.before_iff.mp (hsets _ (List.mem_of_getElem? (i := 7) rfl))
  have eh := eqv_i (F := .int 127) rfl t3
  have sH := Sta.start eh (Or.inl (hsets _ (List.mem_of_getElem? (i := 1) rfl)))
  obtain ⟨cA, eA⟩ := arr_v t4
  have sC := Sta.start eA (Or.inr ⟨(wd63 hw), hsets _ (List.mem_of_getElem? (i := 2) rfl)⟩)
  obtain ⟨cc, A⟩ := Arr.start eA t4
  have haA := A.fin (Vm.Alike.refl _)
  obtain ⟨hl, ez⟩ := Wk.lenOfT eA haA t6
  have bx : Bxs s cA cc "java/lang/Integer" "I" 256 (fun j => .int (j - 128)) := Bxs.start (fun idx => (eA : (Jvm.Term.static "java/lang/Integer$IntegerCache" "cache" "[Ljava/lang/Integer;").eval _ s none idx s = _)) A hl ez (by decide) t7 (fun X j hj h => eqv_i (Wk.subF (idx_at hj) rfl) h)
  obtain ⟨⟨cq, kq, mr, q1, q2, q3, q4⟩, -⟩ := hcalls
  have mM : Mir s "[Ljava/lang/Object;" mr := ⟨cq, kq, q1, q2, q3, q4⟩
  obtain ⟨n, o, h1, h2, h3, v, L, H', rfl, rfl, hp, N, hq⟩ := m_law l s _ hw s.heap i0 i1 i2 i3 cA cc sH sC bx rfl mr mM p e ha hc hk s m _ below hf ((Spec.applies_iff_loose hf).mp happ).1 ⟨rfl, State.Warmed39.refl s, Wk.Hp.start s s.heap⟩ trivial
  refine ⟨n, _, h1, h2, h3, hpost _ _ _ _ _ _ ⟨Cond.after_iff.mpr rfl, Cond.after_iff.mpr (eq_i res_at (Term.int_eval (1)) rfl), trivial⟩ ⟨hq.1, hq.2.1, (hq.2.2.sift fun y hy => Or.inr (N y hy)).mono (by decide) (by decide)⟩⟩
theorem main_1_1 : Claimed_1_1 := comes_1 fun _ _ _ _ _ _ h hF => ⟨h.1, hF⟩
theorem main_1_2 : Claimed_1_2 := comes_1 fun _ _ _ _ _ _ h hF => ⟨h.2.1, hF⟩
end Jvm.Pilot.@@N@@
namespace Jvm.Pilot.@@N@@
open Jvm Jvm.ClassFile Sem Op Lib Jvm.Free Jvm.Stand Jvm.Pilot.@@N@@.Jvm.D
/-! MADE BY PROGRAM (witnessworld.py) out of the Statement's table words and the real class files: 32 classes; the members and pool entries that the words name. The judged class is class 1, her method 4. -/
namespace start1
open Jvm.ClassFile
def u (s : String) : CpInfo := .utf8 (stringToUtf16 s)
/-- a pool by its gaps: so many unusable entries, then the entry; so many at the end -/
def gap : Nat → List CpInfo → List CpInfo
  | 0, r => r
  | n + 1, r => .unusable :: gap n r
def poolList (es : List (Nat × CpInfo)) (last : Nat) : List CpInfo := es.foldr (fun e r => gap e.1 (e.2 :: r)) (gap last [])
def pool (es : List (Nat × CpInfo)) (last : Nat) : Array CpInfo := ⟨poolList es last⟩
def fileOf (pool : Array CpInfo) (this : Nat) (attrs : Array Attribute := #[]) (ms : Array MethodInfo := #[]) (fl : Nat := 33) (sup : Nat := 0) (ifs : Array Nat := #[]) (fds : Array FieldInfo := #[]) : ClassFile where
  minorVersion := 0
  majorVersion := 65
  constantPool := pool
  accessFlags := fl
  thisClass := this
  superClass := sup
  interfaces := ifs
  fields := fds
  methods := ms
  attributes := attrs
def plain (name : String) (sup : Option ClassId) : Class where
  name := name
  kind := .ordinary
  loader := none
  accessFlags := 33
  super := sup
  interfaces := #[]
  cf := none
  fields := #[]
  methods := #[]
  instanceTypes := #[]
  staticTypes := #[]
  resolved := #[]
  callSites := []
  init := .initialized
  statics := none
  mirror := none

def pool0 : Array CpInfo := pool [(5, u "<init>"), (0, u "()V"), (1, .class_ 10), (1, u "java/lang/Object"), (0, u "getClass"), (0, u "()Ljava/lang/Class;")] 111

def k0c0 : Code := { maxStack := 0, maxLocals := 1, code := object_method_1_code, exceptionTable := #[], attributes := #[] }
def k0m0 : Method := { name := "<init>", desc := "()V", sig := { parameters := [], returnType := none }, accessFlags := 1, code := some k0c0 }
def k0m1 : Method := { name := "getClass", desc := "()Ljava/lang/Class;", sig := { parameters := [], returnType := some (.object "java/lang/Class") }, accessFlags := 273, code := none }
/-- java/lang/Object -/
def k0 : Class := { plain "java/lang/Object" none with
  accessFlags := 33
  interfaces := #[]
  cf := some (fileOf pool0 8 #[] #[{ accessFlags := 1, nameIndex := 5, descriptorIndex := 6, attributes := #[] }, { accessFlags := 273, nameIndex := 11, descriptorIndex := 12, attributes := #[] }] 33 0 #[] #[])
  fields := #[]
  methods := #[k0m0, k0m1]
  instanceTypes := #[]
  staticTypes := #[]
  resolved := Array.replicate 124 none
  statics := none }

def pool1 : Array CpInfo := pool [(2, .class_ 4), (1, u "java/lang/Object"), (0, u "<init>"), (0, u "()V"), (0, .interfaceMethodref 8 9), (0, .class_ 10), (0, .nameAndType 11 12), (0, u "java/util/List"), (0, u "size"), (0, u "()I"), (0, .interfaceMethodref 8 14), (0, .nameAndType 15 16), (0, u "get"), (0, u "(I)Ljava/lang/Object;"), (0, .class_ 18), (0, u "java/lang/Integer"), (0, .methodref 17 20), (0, .nameAndType 21 12), (0, u "intValue"), (0, .methodref 23 24), (0, .class_ 25), (0, .nameAndType 26 27), (0, u "com/example/dissect/dissect/RecentPlacesPutPinLaw"), (0, u "lastOf"), (0, u "(IIIII)I"), (0, .integer 268435455), (0, .class_ 30), (0, u "com/example/dissect/dissect/RecentPlaces"), (0, .methodref 29 32), (0, .nameAndType 5 33), (0, u "(I)V"), (0, .methodref 29 35), (0, .nameAndType 36 37), (0, u "put"), (0, u "(II)V"), (0, .methodref 23 39), (0, .nameAndType 40 41), (0, u "expMoment"), (0, u "(IIIIIIIII)I"), (0, .methodref 29 43), (0, .nameAndType 44 45), (0, u "since"), (0, u "(I)Ljava/util/List;"), (0, .methodref 23 47), (0, .nameAndType 48 49), (0, u "step"), (0, u "(Ljava/util/List;IIIIII)I"), (0, .methodref 29 51), (0, .nameAndType 52 53), (0, u "putAt"), (0, u "(I)I"), (5, u "law"), (0, u "(IIII)Z")] 2

def k1m0 : Method := { name := "<init>", desc := "()V", sig := { parameters := [], returnType := none }, accessFlags := 1, code := none }
def k1c1 : Code := { maxStack := 2, maxLocals := 5, code := method_2_code, exceptionTable := #[], attributes := #[] }
def k1m1 : Method := { name := "lastOf", desc := "(IIIII)I", sig := { parameters := [.int, .int, .int, .int, .int], returnType := some .int }, accessFlags := 10, code := some k1c1 }
def k1c2 : Code := { maxStack := 2, maxLocals := 9, code := method_3_code, exceptionTable := #[], attributes := #[] }
def k1m2 : Method := { name := "expMoment", desc := "(IIIIIIIII)I", sig := { parameters := [.int, .int, .int, .int, .int, .int, .int, .int, .int], returnType := some .int }, accessFlags := 10, code := some k1c2 }
def k1c3 : Code := { maxStack := 5, maxLocals := 9, code := method_4_code, exceptionTable := #[], attributes := #[] }
def k1m3 : Method := { name := "step", desc := "(Ljava/util/List;IIIIII)I", sig := { parameters := [(.object "java/util/List"), .int, .int, .int, .int, .int, .int], returnType := some .int }, accessFlags := 10, code := some k1c3 }
def k1c4 : Code := { maxStack := 9, maxLocals := 25, code := code, exceptionTable := #[], attributes := #[] }
def k1m4 : Method := { name := "law", desc := "(IIII)Z", sig := { parameters := [.int, .int, .int, .int], returnType := some .boolean }, accessFlags := 9, code := some k1c4 }
/-- com/example/dissect/dissect/RecentPlacesPutPinLaw -/
def k1 : Class := { plain "com/example/dissect/dissect/RecentPlacesPutPinLaw" (some 0) with
  accessFlags := 49
  interfaces := #[]
  cf := some (fileOf pool1 23 #[] #[{ accessFlags := 1, nameIndex := 5, descriptorIndex := 6, attributes := #[] }, { accessFlags := 10, nameIndex := 26, descriptorIndex := 27, attributes := #[] }, { accessFlags := 10, nameIndex := 40, descriptorIndex := 41, attributes := #[] }, { accessFlags := 10, nameIndex := 48, descriptorIndex := 49, attributes := #[] }, { accessFlags := 9, nameIndex := 59, descriptorIndex := 60, attributes := #[] }] 49 2 #[] #[])
  fields := #[]
  methods := #[k1m0, k1m1, k1m2, k1m3, k1m4]
  instanceTypes := #[]
  staticTypes := #[]
  resolved := Array.replicate 63 none
  statics := none }

def pool2 : Array CpInfo := pool [(1, .methodref 2 3), (0, .class_ 4), (0, .nameAndType 5 6), (0, u "java/lang/Object"), (0, u "<init>"), (0, u "()V"), (0, .fieldref 8 9), (0, .class_ 10), (0, .nameAndType 11 12), (0, u "com/example/dissect/dissect/RecentPlaces"), (0, u "newest"), (0, u "I"), (0, .fieldref 8 14), (0, .nameAndType 15 16), (0, u "older"), (0, u "[I"), (0, .fieldref 8 18), (0, .nameAndType 19 16), (0, u "newer"), (0, .fieldref 8 21), (0, .nameAndType 22 16), (0, u "putAt"), (0, .class_ 24), (0, u "java/util/ArrayList"), (0, .methodref 23 26), (0, .nameAndType 5 27), (0, u "(I)V"), (0, .methodref 29 30), (0, .class_ 31), (0, .nameAndType 32 33), (0, u "java/lang/Integer"), (0, u "valueOf"), (0, u "(I)Ljava/lang/Integer;"), (0, .interfaceMethodref 35 36), (0, .class_ 37), (0, .nameAndType 38 39), (0, u "java/util/List"), (0, u "add"), (0, u "(Ljava/lang/Object;)Z"), (2, u "put"), (0, u "(II)V"), (2, u "(I)I"), (0, u "since"), (0, u "(I)Ljava/util/List;")] 4

def k2c0 : Code := { maxStack := 2, maxLocals := 2, code := prog_102_method_1_code, exceptionTable := #[], attributes := #[] }
def k2m0 : Method := { name := "<init>", desc := "(I)V", sig := { parameters := [.int], returnType := none }, accessFlags := 0, code := some k2c0 }
def k2c1 : Code := { maxStack := 4, maxLocals := 3, code := prog_102_method_2_code, exceptionTable := #[], attributes := #[] }
def k2m1 : Method := { name := "put", desc := "(II)V", sig := { parameters := [.int, .int], returnType := none }, accessFlags := 0, code := some k2c1 }
def k2c2 : Code := { maxStack := 2, maxLocals := 2, code := prog_102_method_4_code, exceptionTable := #[], attributes := #[] }
def k2m2 : Method := { name := "putAt", desc := "(I)I", sig := { parameters := [.int], returnType := some .int }, accessFlags := 0, code := some k2c2 }
def k2c3 : Code := { maxStack := 3, maxLocals := 4, code := prog_102_method_5_code, exceptionTable := #[], attributes := #[] }
def k2m3 : Method := { name := "since", desc := "(I)Ljava/util/List;", sig := { parameters := [.int], returnType := some (.object "java/util/List") }, accessFlags := 0, code := some k2c3 }
/-- com/example/dissect/dissect/RecentPlaces -/
def k2 : Class := { plain "com/example/dissect/dissect/RecentPlaces" (some 0) with
  accessFlags := 48
  interfaces := #[]
  cf := some (fileOf pool2 8 #[] #[{ accessFlags := 0, nameIndex := 5, descriptorIndex := 27, attributes := #[] }, { accessFlags := 0, nameIndex := 42, descriptorIndex := 43, attributes := #[] }, { accessFlags := 0, nameIndex := 22, descriptorIndex := 46, attributes := #[] }, { accessFlags := 0, nameIndex := 47, descriptorIndex := 48, attributes := #[] }] 48 2 #[] #[{ accessFlags := 18, nameIndex := 15, descriptorIndex := 16, attributes := #[] }, { accessFlags := 18, nameIndex := 19, descriptorIndex := 16, attributes := #[] }, { accessFlags := 18, nameIndex := 22, descriptorIndex := 16, attributes := #[] }, { accessFlags := 2, nameIndex := 11, descriptorIndex := 12, attributes := #[] }])
  fields := #[{ name := "older", type := (.array .int), accessFlags := 18, slot := 0, constantValue := 0 }, { name := "newer", type := (.array .int), accessFlags := 18, slot := 1, constantValue := 0 }, { name := "putAt", type := (.array .int), accessFlags := 18, slot := 2, constantValue := 0 }, { name := "newest", type := .int, accessFlags := 2, slot := 3, constantValue := 0 }]
  methods := #[k2m0, k2m1, k2m2, k2m3]
  instanceTypes := #[(.array .int), (.array .int), (.array .int), .int]
  staticTypes := #[]
  resolved := Array.replicate 53 none
  statics := none }

def pool3 : Array CpInfo := pool [(8, .class_ 10), (1, u "java/lang/Iterable"), (24, .class_ 36), (0, u "java/lang/Object")] 25

/-- java/lang/Iterable -/
def k3 : Class := { plain "java/lang/Iterable" (some 0) with
  accessFlags := 1537
  interfaces := #[]
  cf := some (fileOf pool3 8 #[] #[] 1537 35 #[] #[])
  fields := #[]
  methods := #[]
  instanceTypes := #[]
  staticTypes := #[]
  resolved := Array.replicate 62 none
  statics := none }

def pool4 : Array CpInfo := pool [(10, .class_ 12), (1, u "java/util/Collection"), (47, .class_ 61), (0, u "java/lang/Object"), (0, .class_ 63), (0, u "java/lang/Iterable")] 51

/-- java/util/Collection -/
def k4 : Class := { plain "java/util/Collection" (some 0) with
  accessFlags := 1537
  interfaces := #[3]
  cf := some (fileOf pool4 10 #[] #[] 1537 60 #[62] #[])
  fields := #[]
  methods := #[]
  instanceTypes := #[]
  staticTypes := #[]
  resolved := Array.replicate 115 none
  statics := none }

def pool5 : Array CpInfo := pool [(1, .methodref 2 3), (0, .class_ 4), (0, .nameAndType 5 6), (0, u "java/lang/Object"), (0, u "<init>"), (0, u "()V"), (1, .class_ 10), (1, u "java/util/AbstractCollection"), (66, .class_ 78), (0, u "java/util/Collection")] 81

def k5c0 : Code := { maxStack := 1, maxLocals := 1, code := jdk_22_method_1_code, exceptionTable := #[], attributes := #[] }
def k5m0 : Method := { name := "<init>", desc := "()V", sig := { parameters := [], returnType := none }, accessFlags := 4, code := some k5c0 }
/-- java/util/AbstractCollection -/
def k5 : Class := { plain "java/util/AbstractCollection" (some 0) with
  accessFlags := 1057
  interfaces := #[4]
  cf := some (fileOf pool5 8 #[] #[{ accessFlags := 4, nameIndex := 5, descriptorIndex := 6, attributes := #[] }] 1057 2 #[77] #[])
  fields := #[]
  methods := #[k5m0]
  instanceTypes := #[]
  staticTypes := #[]
  resolved := Array.replicate 160 none
  statics := none }

def pool6 : Array CpInfo := pool [(8, .class_ 10), (1, u "java/util/SequencedCollection"), (15, .class_ 27), (0, u "java/lang/Object"), (0, .class_ 29), (0, u "java/util/Collection")] 27

/-- java/util/SequencedCollection -/
def k6 : Class := { plain "java/util/SequencedCollection" (some 0) with
  accessFlags := 1537
  interfaces := #[4]
  cf := some (fileOf pool6 8 #[] #[] 1537 26 #[28] #[])
  fields := #[]
  methods := #[]
  instanceTypes := #[]
  staticTypes := #[]
  resolved := Array.replicate 57 none
  statics := none }

def pool7 : Array CpInfo := pool [(8, .class_ 10), (1, u "java/util/List"), (49, u "add"), (3, u "(Ljava/lang/Object;)Z"), (10, u "get"), (0, u "(I)Ljava/lang/Object;"), (2, u "size"), (0, u "()I"), (22, .class_ 104), (0, u "java/lang/Object"), (15, .class_ 121), (0, u "java/util/SequencedCollection")] 129

def k7m0 : Method := { name := "size", desc := "()I", sig := { parameters := [], returnType := some .int }, accessFlags := 1025, code := none }
def k7m1 : Method := { name := "add", desc := "(Ljava/lang/Object;)Z", sig := { parameters := [(.object "java/lang/Object")], returnType := some .boolean }, accessFlags := 1025, code := none }
def k7m2 : Method := { name := "get", desc := "(I)Ljava/lang/Object;", sig := { parameters := [.int], returnType := some (.object "java/lang/Object") }, accessFlags := 1025, code := none }
/-- java/util/List -/
def k7 : Class := { plain "java/util/List" (some 0) with
  accessFlags := 1537
  interfaces := #[6]
  cf := some (fileOf pool7 8 #[] #[{ accessFlags := 1025, nameIndex := 79, descriptorIndex := 80, attributes := #[] }, { accessFlags := 1025, nameIndex := 60, descriptorIndex := 64, attributes := #[] }, { accessFlags := 1025, nameIndex := 75, descriptorIndex := 76, attributes := #[] }] 1537 103 #[120] #[])
  fields := #[]
  methods := #[k7m0, k7m1, k7m2]
  instanceTypes := #[]
  staticTypes := #[]
  resolved := Array.replicate 251 none
  statics := none }

def pool8 : Array CpInfo := pool [(1, .methodref 2 3), (0, .class_ 4), (0, .nameAndType 5 6), (0, u "java/util/AbstractCollection"), (0, u "<init>"), (0, u "()V"), (0, .fieldref 8 9), (0, .class_ 10), (0, .nameAndType 11 12), (0, u "java/util/AbstractList"), (0, u "modCount"), (0, u "I"), (64, .class_ 78), (0, u "java/util/AbstractList$Itr"), (3, .class_ 83), (0, u "java/util/AbstractList$ListItr"), (9, .class_ 94), (0, u "java/util/AbstractList$RandomAccessSubList"), (3, .class_ 99), (0, u "java/util/AbstractList$SubList"), (33, .class_ 134), (0, u "java/util/List"), (73, .class_ 209), (0, u "java/util/AbstractList$SubList$1"), (0, .class_ 211), (0, u "java/util/AbstractList$RandomAccessSpliterator")] 6

def k8c0 : Code := { maxStack := 2, maxLocals := 1, code := jdk_39_method_1_code, exceptionTable := #[], attributes := #[] }
def k8m0 : Method := { name := "<init>", desc := "()V", sig := { parameters := [], returnType := none }, accessFlags := 4, code := some k8c0 }
/-- java/util/AbstractList -/
def k8 : Class := { plain "java/util/AbstractList" (some 5) with
  accessFlags := 1057
  interfaces := #[7]
  cf := some (fileOf pool8 8 #[.nestMembers #[93, 98, 208, 210, 82, 77]] #[{ accessFlags := 4, nameIndex := 5, descriptorIndex := 6, attributes := #[] }] 1057 2 #[133] #[{ accessFlags := 132, nameIndex := 11, descriptorIndex := 12, attributes := #[] }])
  fields := #[{ name := "modCount", type := .int, accessFlags := 132, slot := 0, constantValue := 0 }]
  methods := #[k8m0]
  instanceTypes := #[.int]
  staticTypes := #[]
  resolved := Array.replicate 218 none
  statics := none }

def pool9 : Array CpInfo := pool [(1, .class_ 2), (0, u "java/util/RandomAccess"), (0, .class_ 4), (0, u "java/lang/Object")] 2

/-- java/util/RandomAccess -/
def k9 : Class := { plain "java/util/RandomAccess" (some 0) with
  accessFlags := 1537
  interfaces := #[]
  cf := some (fileOf pool9 1 #[] #[] 1537 3 #[] #[])
  fields := #[]
  methods := #[]
  instanceTypes := #[]
  staticTypes := #[]
  resolved := Array.replicate 7 none
  statics := none }

def pool10 : Array CpInfo := pool [(1, .class_ 2), (0, u "java/lang/Cloneable"), (0, .class_ 4), (0, u "java/lang/Object")] 2

/-- java/lang/Cloneable -/
def k10 : Class := { plain "java/lang/Cloneable" (some 0) with
  accessFlags := 1537
  interfaces := #[]
  cf := some (fileOf pool10 1 #[] #[] 1537 3 #[] #[])
  fields := #[]
  methods := #[]
  instanceTypes := #[]
  staticTypes := #[]
  resolved := Array.replicate 7 none
  statics := none }

def pool11 : Array CpInfo := pool [(1, .class_ 2), (0, u "java/io/Serializable"), (0, .class_ 4), (0, u "java/lang/Object")] 2

/-- java/io/Serializable -/
def k11 : Class := { plain "java/io/Serializable" (some 0) with
  accessFlags := 1537
  interfaces := #[]
  cf := some (fileOf pool11 1 #[] #[] 1537 3 #[] #[])
  fields := #[]
  methods := #[]
  instanceTypes := #[]
  staticTypes := #[]
  resolved := Array.replicate 7 none
  statics := none }

def pool12 : Array CpInfo := pool [(1, .methodref 2 3), (0, .class_ 4), (0, .nameAndType 5 6), (0, u "java/util/AbstractList"), (0, u "<init>"), (0, u "()V"), (0, .class_ 8), (0, u "java/lang/Object"), (0, .fieldref 10 11), (0, .class_ 12), (0, .nameAndType 13 14), (0, u "java/util/ArrayList"), (0, u "elementData"), (0, u "[Ljava/lang/Object;"), (2, u "EMPTY_ELEMENTDATA"), (23, u "DEFAULTCAPACITY_EMPTY_ELEMENTDATA"), (5, u "()[Ljava/lang/Object;"), (0, .fieldref 10 49), (0, .nameAndType 50 51), (0, u "size"), (0, u "I"), (6, .class_ 60), (1, u "java/util/Arrays"), (0, u "copyOf"), (1, .fieldref 10 64), (0, .nameAndType 65 51), (0, u "modCount"), (0, .methodref 58 67), (0, .nameAndType 61 68), (0, u "([Ljava/lang/Object;I)[Ljava/lang/Object;"), (0, .methodref 10 70), (0, .nameAndType 71 72), (0, u "grow"), (0, u "(I)[Ljava/lang/Object;"), (0, .methodref 74 75), (0, .class_ 76), (0, .nameAndType 77 78), (0, u "jdk/internal/util/ArraysSupport"), (0, u "newLength"), (0, u "(III)I"), (5, u "(II)I"), (11, u "(Ljava/lang/Object;)Z"), (21, .methodref 119 120), (0, .class_ 121), (0, .nameAndType 122 84), (0, u "java/util/Objects"), (0, u "checkIndex"), (0, .methodref 10 124), (0, .nameAndType 13 125), (0, u "(I)Ljava/lang/Object;"), (3, .methodref 10 130), (0, .nameAndType 71 47), (0, .methodref 10 132), (0, .nameAndType 133 134), (0, u "add"), (0, u "(Ljava/lang/Object;[Ljava/lang/Object;I)V"), (3, u "(I)V"), (9, .class_ 149), (0, u "java/util/List"), (36, u "()I"), (75, .class_ 263), (0, u "java/util/ArrayList$ListItr"), (3, .class_ 268), (0, u "java/util/ArrayList$Itr"), (7, .class_ 277), (0, u "java/util/ArrayList$SubList"), (12, .class_ 291), (0, u "java/util/ArrayList$ArrayListSpliterator"), (37, .class_ 330), (0, u "java/util/RandomAccess"), (0, .class_ 332), (0, u "java/lang/Cloneable"), (0, .class_ 334), (0, u "java/io/Serializable"), (0, u "serialVersionUID"), (0, u "J"), (3, u "DEFAULT_CAPACITY"), (40, u "get"), (118, .class_ 501), (0, u "java/util/ArrayList$SubList$2"), (0, .class_ 503), (0, u "java/util/ArrayList$SubList$1")] 5

def k12c0 : Code := { maxStack := 4, maxLocals := 2, code := jdk_38_method_1_code, exceptionTable := #[], attributes := #[] }
def k12m0 : Method := { name := "<init>", desc := "(I)V", sig := { parameters := [.int], returnType := none }, accessFlags := 1, code := some k12c0 }
def k12m1 : Method := { name := "<init>", desc := "()V", sig := { parameters := [], returnType := none }, accessFlags := 1, code := none }
def k12c2 : Code := { maxStack := 4, maxLocals := 4, code := jdk_38_method_6_code, exceptionTable := #[], attributes := #[] }
def k12m2 : Method := { name := "grow", desc := "(I)[Ljava/lang/Object;", sig := { parameters := [.int], returnType := some (.array (.object "java/lang/Object")) }, accessFlags := 2, code := some k12c2 }
def k12c3 : Code := { maxStack := 3, maxLocals := 1, code := jdk_38_method_7_code, exceptionTable := #[], attributes := #[] }
def k12m3 : Method := { name := "grow", desc := "()[Ljava/lang/Object;", sig := { parameters := [], returnType := some (.array (.object "java/lang/Object")) }, accessFlags := 2, code := some k12c3 }
def k12c4 : Code := { maxStack := 1, maxLocals := 1, code := jdk_38_method_8_code, exceptionTable := #[], attributes := #[] }
def k12m4 : Method := { name := "size", desc := "()I", sig := { parameters := [], returnType := some .int }, accessFlags := 1, code := some k12c4 }
def k12c5 : Code := { maxStack := 2, maxLocals := 2, code := jdk_38_method_18_code, exceptionTable := #[], attributes := #[] }
def k12m5 : Method := { name := "elementData", desc := "(I)Ljava/lang/Object;", sig := { parameters := [.int], returnType := some (.object "java/lang/Object") }, accessFlags := 0, code := some k12c5 }
def k12c6 : Code := { maxStack := 2, maxLocals := 2, code := jdk_38_method_20_code, exceptionTable := #[], attributes := #[] }
def k12m6 : Method := { name := "get", desc := "(I)Ljava/lang/Object;", sig := { parameters := [.int], returnType := some (.object "java/lang/Object") }, accessFlags := 1, code := some k12c6 }
def k12c7 : Code := { maxStack := 3, maxLocals := 4, code := jdk_38_method_24_code, exceptionTable := #[], attributes := #[] }
def k12m7 : Method := { name := "add", desc := "(Ljava/lang/Object;[Ljava/lang/Object;I)V", sig := { parameters := [(.object "java/lang/Object"), (.array (.object "java/lang/Object")), .int], returnType := none }, accessFlags := 2, code := some k12c7 }
def k12c8 : Code := { maxStack := 4, maxLocals := 2, code := jdk_38_method_25_code, exceptionTable := #[], attributes := #[] }
def k12m8 : Method := { name := "add", desc := "(Ljava/lang/Object;)Z", sig := { parameters := [(.object "java/lang/Object")], returnType := some .boolean }, accessFlags := 1, code := some k12c8 }
/-- java/util/ArrayList -/
def k12 : Class := { plain "java/util/ArrayList" (some 8) with
  accessFlags := 33
  interfaces := #[7, 9, 10, 11]
  cf := some (fileOf pool12 10 #[.nestMembers #[290, 276, 500, 502, 262, 267]] #[{ accessFlags := 1, nameIndex := 5, descriptorIndex := 138, attributes := #[] }, { accessFlags := 1, nameIndex := 5, descriptorIndex := 6, attributes := #[] }, { accessFlags := 2, nameIndex := 71, descriptorIndex := 72, attributes := #[] }, { accessFlags := 2, nameIndex := 71, descriptorIndex := 47, attributes := #[] }, { accessFlags := 1, nameIndex := 50, descriptorIndex := 186, attributes := #[] }, { accessFlags := 0, nameIndex := 13, descriptorIndex := 125, attributes := #[] }, { accessFlags := 1, nameIndex := 381, descriptorIndex := 125, attributes := #[] }, { accessFlags := 2, nameIndex := 133, descriptorIndex := 134, attributes := #[] }, { accessFlags := 1, nameIndex := 133, descriptorIndex := 96, attributes := #[] }] 33 2 #[148, 329, 331, 333] #[{ accessFlags := 26, nameIndex := 335, descriptorIndex := 336, attributes := #[] }, { accessFlags := 26, nameIndex := 340, descriptorIndex := 51, attributes := #[] }, { accessFlags := 26, nameIndex := 17, descriptorIndex := 14, attributes := #[] }, { accessFlags := 26, nameIndex := 41, descriptorIndex := 14, attributes := #[] }, { accessFlags := 128, nameIndex := 13, descriptorIndex := 14, attributes := #[] }, { accessFlags := 2, nameIndex := 50, descriptorIndex := 51, attributes := #[] }])
  fields := #[{ name := "serialVersionUID", type := .long, accessFlags := 26, slot := 0, constantValue := 0 }, { name := "DEFAULT_CAPACITY", type := .int, accessFlags := 26, slot := 1, constantValue := 0 }, { name := "EMPTY_ELEMENTDATA", type := (.array (.object "java/lang/Object")), accessFlags := 26, slot := 2, constantValue := 0 }, { name := "DEFAULTCAPACITY_EMPTY_ELEMENTDATA", type := (.array (.object "java/lang/Object")), accessFlags := 26, slot := 3, constantValue := 0 }, { name := "elementData", type := (.array (.object "java/lang/Object")), accessFlags := 128, slot := 1, constantValue := 0 }, { name := "size", type := .int, accessFlags := 2, slot := 2, constantValue := 0 }]
  methods := #[k12m0, k12m1, k12m2, k12m3, k12m4, k12m5, k12m6, k12m7, k12m8]
  instanceTypes := #[.int, (.array (.object "java/lang/Object")), .int]
  staticTypes := #[.long, .int, (.array (.object "java/lang/Object")), (.array (.object "java/lang/Object"))]
  resolved := Array.replicate 509 none
  statics := none }

def pool13 : Array CpInfo := pool [(2, .class_ 4), (1, u "java/lang/Object"), (0, u "<init>"), (0, u "()V"), (1, .class_ 10), (1, u "java/lang/Number"), (2, .class_ 14), (0, u "java/io/Serializable"), (0, u "serialVersionUID"), (0, u "J")] 20

def k13m0 : Method := { name := "<init>", desc := "()V", sig := { parameters := [], returnType := none }, accessFlags := 1, code := none }
/-- java/lang/Number -/
def k13 : Class := { plain "java/lang/Number" (some 0) with
  accessFlags := 1057
  interfaces := #[11]
  cf := some (fileOf pool13 8 #[] #[{ accessFlags := 1, nameIndex := 5, descriptorIndex := 6, attributes := #[] }] 1057 2 #[13] #[{ accessFlags := 26, nameIndex := 15, descriptorIndex := 16, attributes := #[] }])
  fields := #[{ name := "serialVersionUID", type := .long, accessFlags := 26, slot := 0, constantValue := 0 }]
  methods := #[k13m0]
  instanceTypes := #[]
  staticTypes := #[.long]
  resolved := Array.replicate 37 none
  statics := none }

def pool14 : Array CpInfo := pool [(1, .class_ 2), (0, u "java/lang/Comparable"), (0, .class_ 4), (0, u "java/lang/Object")] 7

/-- java/lang/Comparable -/
def k14 : Class := { plain "java/lang/Comparable" (some 0) with
  accessFlags := 1537
  interfaces := #[]
  cf := some (fileOf pool14 1 #[] #[] 1537 3 #[] #[])
  fields := #[]
  methods := #[]
  instanceTypes := #[]
  staticTypes := #[]
  resolved := Array.replicate 12 none
  statics := none }

def pool15 : Array CpInfo := pool [(1, .class_ 2), (0, u "java/lang/constant/Constable"), (0, .class_ 4), (0, u "java/lang/Object")] 6

/-- java/lang/constant/Constable -/
def k15 : Class := { plain "java/lang/constant/Constable" (some 0) with
  accessFlags := 1537
  interfaces := #[]
  cf := some (fileOf pool15 1 #[] #[] 1537 3 #[] #[])
  fields := #[]
  methods := #[]
  instanceTypes := #[]
  staticTypes := #[]
  resolved := Array.replicate 11 none
  statics := none }

def pool16 : Array CpInfo := pool [(1, .class_ 2), (0, u "java/lang/constant/ConstantDesc"), (0, .class_ 4), (0, u "java/lang/Object")] 32

/-- java/lang/constant/ConstantDesc -/
def k16 : Class := { plain "java/lang/constant/ConstantDesc" (some 0) with
  accessFlags := 1537
  interfaces := #[]
  cf := some (fileOf pool16 1 #[] #[] 1537 3 #[] #[])
  fields := #[]
  methods := #[]
  instanceTypes := #[]
  staticTypes := #[]
  resolved := Array.replicate 37 none
  statics := none }

def pool17 : Array CpInfo := pool [(1, .class_ 2), (0, u "java/lang/Integer"), (16, u "digits"), (0, u "[C"), (64, u "DigitOnes"), (0, u "[B"), (2, u "DigitTens"), (31, u "()I"), (65, u "valueOf"), (0, u "(I)Ljava/lang/Integer;"), (0, .class_ 190), (0, u "java/lang/Integer$IntegerCache"), (0, .fieldref 189 192), (0, .nameAndType 193 194), (0, u "high"), (0, u "I"), (0, .fieldref 189 196), (0, .nameAndType 197 198), (0, u "cache"), (0, u "[Ljava/lang/Integer;"), (4, .class_ 204), (0, u "java/lang/Number"), (0, .fieldref 1 206), (0, .nameAndType 207 194), (0, u "value"), (5, u "intValue"), (88, u "TYPE"), (0, u "Ljava/lang/Class;"), (0, .class_ 305), (0, u "java/lang/Comparable"), (0, .class_ 307), (0, u "java/lang/constant/Constable"), (0, .class_ 309), (0, u "java/lang/constant/ConstantDesc"), (0, u "MIN_VALUE"), (1, u "MAX_VALUE"), (3, u "SIZE"), (1, u "BYTES"), (1, u "serialVersionUID"), (0, u "J")] 131

def k17c0 : Code := { maxStack := 3, maxLocals := 1, code := jdk_33_method_22_code, exceptionTable := #[], attributes := #[] }
def k17m0 : Method := { name := "valueOf", desc := "(I)Ljava/lang/Integer;", sig := { parameters := [.int], returnType := some (.object "java/lang/Integer") }, accessFlags := 9, code := some k17c0 }
def k17c1 : Code := { maxStack := 1, maxLocals := 1, code := jdk_33_method_27_code, exceptionTable := #[], attributes := #[] }
def k17m1 : Method := { name := "intValue", desc := "()I", sig := { parameters := [], returnType := some .int }, accessFlags := 1, code := some k17c1 }
/-- java/lang/Integer -/
def k17 : Class := { plain "java/lang/Integer" (some 13) with
  accessFlags := 49
  interfaces := #[14, 15, 16]
  cf := some (fileOf pool17 1 #[.nestMembers #[189]] #[{ accessFlags := 9, nameIndex := 187, descriptorIndex := 188, attributes := #[] }, { accessFlags := 1, nameIndex := 213, descriptorIndex := 121, attributes := #[] }] 49 203 #[304, 306, 308] #[{ accessFlags := 25, nameIndex := 310, descriptorIndex := 194, attributes := #[] }, { accessFlags := 25, nameIndex := 312, descriptorIndex := 194, attributes := #[] }, { accessFlags := 25, nameIndex := 302, descriptorIndex := 303, attributes := #[] }, { accessFlags := 24, nameIndex := 19, descriptorIndex := 20, attributes := #[] }, { accessFlags := 24, nameIndex := 89, descriptorIndex := 86, attributes := #[] }, { accessFlags := 24, nameIndex := 85, descriptorIndex := 86, attributes := #[] }, { accessFlags := 18, nameIndex := 207, descriptorIndex := 194, attributes := #[] }, { accessFlags := 25, nameIndex := 316, descriptorIndex := 194, attributes := #[] }, { accessFlags := 25, nameIndex := 318, descriptorIndex := 194, attributes := #[] }, { accessFlags := 26, nameIndex := 320, descriptorIndex := 321, attributes := #[] }])
  fields := #[{ name := "MIN_VALUE", type := .int, accessFlags := 25, slot := 0, constantValue := 0 }, { name := "MAX_VALUE", type := .int, accessFlags := 25, slot := 1, constantValue := 0 }, { name := "TYPE", type := (.object "java/lang/Class"), accessFlags := 25, slot := 2, constantValue := 0 }, { name := "digits", type := (.array .char), accessFlags := 24, slot := 3, constantValue := 0 }, { name := "DigitTens", type := (.array .byte), accessFlags := 24, slot := 4, constantValue := 0 }, { name := "DigitOnes", type := (.array .byte), accessFlags := 24, slot := 5, constantValue := 0 }, { name := "value", type := .int, accessFlags := 18, slot := 0, constantValue := 0 }, { name := "SIZE", type := .int, accessFlags := 25, slot := 6, constantValue := 0 }, { name := "BYTES", type := .int, accessFlags := 25, slot := 7, constantValue := 0 }, { name := "serialVersionUID", type := .long, accessFlags := 26, slot := 8, constantValue := 0 }]
  methods := #[k17m0, k17m1]
  instanceTypes := #[.int]
  staticTypes := #[.int, .int, (.object "java/lang/Class"), (.array .char), (.array .byte), (.array .byte), .int, .int, .long]
  resolved := Array.replicate 453 none
  statics := none }

def pool18 : Array CpInfo := pool [(2, .class_ 4), (1, u "java/lang/Object"), (0, u "<init>"), (0, u "()V"), (0, .class_ 8), (0, u "java/lang/Integer"), (7, .class_ 18), (1, u "java/lang/Integer$IntegerCache"), (0, u "$assertionsDisabled"), (0, u "Z"), (26, u "high"), (0, u "I"), (8, u "archivedCache"), (0, u "[Ljava/lang/Integer;"), (12, u "cache"), (0, u "low")] 27

def k18m0 : Method := { name := "<init>", desc := "()V", sig := { parameters := [], returnType := none }, accessFlags := 2, code := none }
/-- java/lang/Integer$IntegerCache -/
def k18 : Class := { plain "java/lang/Integer$IntegerCache" (some 0) with
  accessFlags := 48
  interfaces := #[]
  cf := some (fileOf pool18 16 #[.nestHost 7] #[{ accessFlags := 2, nameIndex := 5, descriptorIndex := 6, attributes := #[] }] 48 2 #[] #[{ accessFlags := 24, nameIndex := 72, descriptorIndex := 48, attributes := #[] }, { accessFlags := 24, nameIndex := 47, descriptorIndex := 48, attributes := #[] }, { accessFlags := 24, nameIndex := 71, descriptorIndex := 58, attributes := #[] }, { accessFlags := 8, nameIndex := 57, descriptorIndex := 58, attributes := #[] }, { accessFlags := 4120, nameIndex := 19, descriptorIndex := 20, attributes := #[] }])
  fields := #[{ name := "low", type := .int, accessFlags := 24, slot := 0, constantValue := 0 }, { name := "high", type := .int, accessFlags := 24, slot := 1, constantValue := 0 }, { name := "cache", type := (.array (.object "java/lang/Integer")), accessFlags := 24, slot := 2, constantValue := 0 }, { name := "archivedCache", type := (.array (.object "java/lang/Integer")), accessFlags := 8, slot := 3, constantValue := 0 }, { name := "$assertionsDisabled", type := .boolean, accessFlags := 4120, slot := 4, constantValue := 0 }]
  methods := #[k18m0]
  instanceTypes := #[]
  staticTypes := #[.int, .int, (.array (.object "java/lang/Integer")), (.array (.object "java/lang/Integer")), .boolean]
  resolved := Array.replicate 100 none
  statics := some 0 }

def pool19 : Array CpInfo := pool [(2, .class_ 4), (1, u "java/lang/Object"), (0, u "<init>"), (0, u "()V"), (35, .class_ 44), (1, u "java/util/Objects"), (60, .methodref 106 107), (0, .class_ 108), (0, .nameAndType 109 110), (0, u "jdk/internal/util/Preconditions"), (0, u "checkIndex"), (0, u "(IILjava/util/function/BiFunction;)I"), (60, u "(II)I")] 12

def k19m0 : Method := { name := "<init>", desc := "()V", sig := { parameters := [], returnType := none }, accessFlags := 2, code := none }
def k19c1 : Code := { maxStack := 3, maxLocals := 2, code := jdk_31_method_17_code, exceptionTable := #[], attributes := #[] }
def k19m1 : Method := { name := "checkIndex", desc := "(II)I", sig := { parameters := [.int, .int], returnType := some .int }, accessFlags := 9, code := some k19c1 }
/-- java/util/Objects -/
def k19 : Class := { plain "java/util/Objects" (some 0) with
  accessFlags := 49
  interfaces := #[]
  cf := some (fileOf pool19 42 #[] #[{ accessFlags := 2, nameIndex := 5, descriptorIndex := 6, attributes := #[] }, { accessFlags := 9, nameIndex := 109, descriptorIndex := 171, attributes := #[] }] 49 2 #[] #[])
  fields := #[]
  methods := #[k19m0, k19m1]
  instanceTypes := #[]
  staticTypes := #[]
  resolved := Array.replicate 184 none
  statics := none }

def pool20 : Array CpInfo := pool [(2, .class_ 4), (1, u "java/lang/Object"), (0, u "<init>"), (0, u "()V"), (17, .class_ 26), (1, u "jdk/internal/util/Preconditions"), (6, u "checkIndex"), (21, .class_ 56), (0, u "jdk/internal/util/Preconditions$4"), (57, .class_ 115), (0, u "jdk/internal/util/Preconditions$1"), (7, u "SIOOBE_FORMATTER"), (0, u "Ljava/util/function/BiFunction;"), (0, .class_ 126), (0, u "jdk/internal/util/Preconditions$2"), (3, u "AIOOBE_FORMATTER"), (0, .class_ 132), (0, u "jdk/internal/util/Preconditions$3"), (3, u "IOOBE_FORMATTER"), (41, u "(IILjava/util/function/BiFunction;)I")] 15

def k20m0 : Method := { name := "<init>", desc := "()V", sig := { parameters := [], returnType := none }, accessFlags := 1, code := none }
def k20c1 : Code := { maxStack := 3, maxLocals := 3, code := jdk_41_method_11_code, exceptionTable := #[], attributes := #[] }
def k20m1 : Method := { name := "checkIndex", desc := "(IILjava/util/function/BiFunction;)I", sig := { parameters := [.int, .int, (.object "java/util/function/BiFunction")], returnType := some .int }, accessFlags := 9, code := some k20c1 }
/-- jdk/internal/util/Preconditions -/
def k20 : Class := { plain "jdk/internal/util/Preconditions" (some 0) with
  accessFlags := 33
  interfaces := #[]
  cf := some (fileOf pool20 24 #[.nestMembers #[55, 131, 125, 114]] #[{ accessFlags := 1, nameIndex := 5, descriptorIndex := 6, attributes := #[] }, { accessFlags := 9, nameIndex := 33, descriptorIndex := 178, attributes := #[] }] 33 2 #[] #[{ accessFlags := 25, nameIndex := 123, descriptorIndex := 124, attributes := #[] }, { accessFlags := 25, nameIndex := 130, descriptorIndex := 124, attributes := #[] }, { accessFlags := 25, nameIndex := 136, descriptorIndex := 124, attributes := #[] }])
  fields := #[{ name := "SIOOBE_FORMATTER", type := (.object "java/util/function/BiFunction"), accessFlags := 25, slot := 0, constantValue := 0 }, { name := "AIOOBE_FORMATTER", type := (.object "java/util/function/BiFunction"), accessFlags := 25, slot := 1, constantValue := 0 }, { name := "IOOBE_FORMATTER", type := (.object "java/util/function/BiFunction"), accessFlags := 25, slot := 2, constantValue := 0 }]
  methods := #[k20m0, k20m1]
  instanceTypes := #[]
  staticTypes := #[(.object "java/util/function/BiFunction"), (.object "java/util/function/BiFunction"), (.object "java/util/function/BiFunction")]
  resolved := Array.replicate 194 none
  statics := none }

def pool21 : Array CpInfo := pool [(9, u "<init>"), (6, .class_ 18), (1, u "java/lang/Object"), (0, u "()V"), (1, .class_ 23), (1, u "jdk/internal/util/ArraysSupport"), (0, u "LOG2_ARRAY_LONG_INDEX_SCALE"), (0, u "I"), (2, u "U"), (0, u "Ljdk/internal/misc/Unsafe;"), (8, u "BIG_ENDIAN"), (0, u "Z"), (8, u "LOG2_BYTE_BIT_SIZE"), (4, u "LOG2_ARRAY_INT_INDEX_SCALE"), (54, u "JLA"), (0, u "Ljdk/internal/access/JavaLangAccess;"), (11, u "LOG2_ARRAY_BOOLEAN_INDEX_SCALE"), (9, u "LOG2_ARRAY_BYTE_INDEX_SCALE"), (5, u "LOG2_ARRAY_CHAR_INDEX_SCALE"), (5, u "LOG2_ARRAY_SHORT_INDEX_SCALE"), (18, u "LOG2_ARRAY_FLOAT_INDEX_SCALE"), (24, u "LOG2_ARRAY_DOUBLE_INDEX_SCALE"), (6, .methodref 195 196), (0, .class_ 197), (0, .nameAndType 198 199), (0, u "java/lang/Math"), (0, u "max"), (0, u "(II)I"), (0, .integer 2147483639), (76, u "T_BOOLEAN"), (2, u "T_CHAR"), (1, u "T_FLOAT"), (1, u "T_DOUBLE"), (1, u "T_BYTE"), (1, u "T_SHORT"), (1, u "T_INT"), (1, u "T_LONG"), (1, u "SOFT_MAX_ARRAY_LENGTH"), (56, u "newLength"), (0, u "(III)I")] 25

def k21m0 : Method := { name := "<init>", desc := "()V", sig := { parameters := [], returnType := none }, accessFlags := 2, code := none }
def k21c1 : Code := { maxStack := 3, maxLocals := 4, code := jdk_48_method_27_code, exceptionTable := #[], attributes := #[] }
def k21m1 : Method := { name := "newLength", desc := "(III)I", sig := { parameters := [.int, .int, .int], returnType := some .int }, accessFlags := 9, code := some k21c1 }
/-- jdk/internal/util/ArraysSupport -/
def k21 : Class := { plain "jdk/internal/util/ArraysSupport" (some 0) with
  accessFlags := 33
  interfaces := #[]
  cf := some (fileOf pool21 21 #[] #[{ accessFlags := 2, nameIndex := 9, descriptorIndex := 19, attributes := #[] }, { accessFlags := 9, nameIndex := 351, descriptorIndex := 352, attributes := #[] }] 33 16 #[] #[{ accessFlags := 24, nameIndex := 28, descriptorIndex := 29, attributes := #[] }, { accessFlags := 26, nameIndex := 38, descriptorIndex := 39, attributes := #[] }, { accessFlags := 25, nameIndex := 121, descriptorIndex := 25, attributes := #[] }, { accessFlags := 25, nameIndex := 131, descriptorIndex := 25, attributes := #[] }, { accessFlags := 25, nameIndex := 137, descriptorIndex := 25, attributes := #[] }, { accessFlags := 25, nameIndex := 143, descriptorIndex := 25, attributes := #[] }, { accessFlags := 25, nameIndex := 53, descriptorIndex := 25, attributes := #[] }, { accessFlags := 25, nameIndex := 24, descriptorIndex := 25, attributes := #[] }, { accessFlags := 25, nameIndex := 162, descriptorIndex := 25, attributes := #[] }, { accessFlags := 25, nameIndex := 187, descriptorIndex := 25, attributes := #[] }, { accessFlags := 26, nameIndex := 48, descriptorIndex := 25, attributes := #[] }, { accessFlags := 25, nameIndex := 277, descriptorIndex := 25, attributes := #[] }, { accessFlags := 25, nameIndex := 280, descriptorIndex := 25, attributes := #[] }, { accessFlags := 25, nameIndex := 282, descriptorIndex := 25, attributes := #[] }, { accessFlags := 25, nameIndex := 284, descriptorIndex := 25, attributes := #[] }, { accessFlags := 25, nameIndex := 286, descriptorIndex := 25, attributes := #[] }, { accessFlags := 25, nameIndex := 288, descriptorIndex := 25, attributes := #[] }, { accessFlags := 25, nameIndex := 290, descriptorIndex := 25, attributes := #[] }, { accessFlags := 25, nameIndex := 292, descriptorIndex := 25, attributes := #[] }, { accessFlags := 26, nameIndex := 108, descriptorIndex := 109, attributes := #[] }, { accessFlags := 25, nameIndex := 294, descriptorIndex := 25, attributes := #[] }])
  fields := #[{ name := "U", type := (.object "jdk/internal/misc/Unsafe"), accessFlags := 24, slot := 0, constantValue := 0 }, { name := "BIG_ENDIAN", type := .boolean, accessFlags := 26, slot := 1, constantValue := 0 }, { name := "LOG2_ARRAY_BOOLEAN_INDEX_SCALE", type := .int, accessFlags := 25, slot := 2, constantValue := 0 }, { name := "LOG2_ARRAY_BYTE_INDEX_SCALE", type := .int, accessFlags := 25, slot := 3, constantValue := 0 }, { name := "LOG2_ARRAY_CHAR_INDEX_SCALE", type := .int, accessFlags := 25, slot := 4, constantValue := 0 }, { name := "LOG2_ARRAY_SHORT_INDEX_SCALE", type := .int, accessFlags := 25, slot := 5, constantValue := 0 }, { name := "LOG2_ARRAY_INT_INDEX_SCALE", type := .int, accessFlags := 25, slot := 6, constantValue := 0 }, { name := "LOG2_ARRAY_LONG_INDEX_SCALE", type := .int, accessFlags := 25, slot := 7, constantValue := 0 }, { name := "LOG2_ARRAY_FLOAT_INDEX_SCALE", type := .int, accessFlags := 25, slot := 8, constantValue := 0 }, { name := "LOG2_ARRAY_DOUBLE_INDEX_SCALE", type := .int, accessFlags := 25, slot := 9, constantValue := 0 }, { name := "LOG2_BYTE_BIT_SIZE", type := .int, accessFlags := 26, slot := 10, constantValue := 0 }, { name := "T_BOOLEAN", type := .int, accessFlags := 25, slot := 11, constantValue := 0 }, { name := "T_CHAR", type := .int, accessFlags := 25, slot := 12, constantValue := 0 }, { name := "T_FLOAT", type := .int, accessFlags := 25, slot := 13, constantValue := 0 }, { name := "T_DOUBLE", type := .int, accessFlags := 25, slot := 14, constantValue := 0 }, { name := "T_BYTE", type := .int, accessFlags := 25, slot := 15, constantValue := 0 }, { name := "T_SHORT", type := .int, accessFlags := 25, slot := 16, constantValue := 0 }, { name := "T_INT", type := .int, accessFlags := 25, slot := 17, constantValue := 0 }, { name := "T_LONG", type := .int, accessFlags := 25, slot := 18, constantValue := 0 }, { name := "JLA", type := (.object "jdk/internal/access/JavaLangAccess"), accessFlags := 26, slot := 19, constantValue := 0 }, { name := "SOFT_MAX_ARRAY_LENGTH", type := .int, accessFlags := 25, slot := 20, constantValue := 0 }]
  methods := #[k21m0, k21m1]
  instanceTypes := #[]
  staticTypes := #[(.object "jdk/internal/misc/Unsafe"), .boolean, .int, .int, .int, .int, .int, .int, .int, .int, .int, .int, .int, .int, .int, .int, .int, .int, .int, (.object "jdk/internal/access/JavaLangAccess"), .int]
  resolved := Array.replicate 378 none
  statics := none }

def pool22 : Array CpInfo := pool [(1, .class_ 2), (0, u "java/lang/Math"), (1, .class_ 6), (1, u "java/lang/Object"), (0, u "<init>"), (0, u "()V"), (89, .class_ 100), (1, u "java/lang/Math$RandomNumberGeneratorHolder"), (71, u "negativeZeroFloatBits"), (0, u "J"), (2, u "negativeZeroDoubleBits"), (21, u "max"), (2, u "min"), (43, u "$assertionsDisabled"), (0, u "Z"), (88, u "(II)I"), (2, u "twoToTheDoubleScaleDown"), (0, u "D"), (4, u "twoToTheDoubleScaleUp"), (9, u "E"), (3, u "PI"), (2, u "TAU"), (2, u "DEGREES_TO_RADIANS"), (0, u "RADIANS_TO_DEGREES")] 94

def k22m0 : Method := { name := "<init>", desc := "()V", sig := { parameters := [], returnType := none }, accessFlags := 2, code := none }
def k22c1 : Code := { maxStack := 2, maxLocals := 2, code := jdk_29_method_65_code, exceptionTable := #[], attributes := #[] }
def k22m1 : Method := { name := "max", desc := "(II)I", sig := { parameters := [.int, .int], returnType := some .int }, accessFlags := 9, code := some k22c1 }
def k22c2 : Code := { maxStack := 2, maxLocals := 2, code := jdk_29_method_69_code, exceptionTable := #[], attributes := #[] }
def k22m2 : Method := { name := "min", desc := "(II)I", sig := { parameters := [.int, .int], returnType := some .int }, accessFlags := 9, code := some k22c2 }
/-- java/lang/Math -/
def k22 : Class := { plain "java/lang/Math" (some 0) with
  accessFlags := 49
  interfaces := #[]
  cf := some (fileOf pool22 1 #[.nestMembers #[98]] #[{ accessFlags := 2, nameIndex := 7, descriptorIndex := 8, attributes := #[] }, { accessFlags := 9, nameIndex := 198, descriptorIndex := 335, attributes := #[] }, { accessFlags := 9, nameIndex := 201, descriptorIndex := 335, attributes := #[] }] 49 4 #[] #[{ accessFlags := 25, nameIndex := 354, descriptorIndex := 339, attributes := #[] }, { accessFlags := 25, nameIndex := 358, descriptorIndex := 339, attributes := #[] }, { accessFlags := 25, nameIndex := 361, descriptorIndex := 339, attributes := #[] }, { accessFlags := 26, nameIndex := 364, descriptorIndex := 339, attributes := #[] }, { accessFlags := 26, nameIndex := 365, descriptorIndex := 339, attributes := #[] }, { accessFlags := 26, nameIndex := 172, descriptorIndex := 173, attributes := #[] }, { accessFlags := 26, nameIndex := 176, descriptorIndex := 173, attributes := #[] }, { accessFlags := 8, nameIndex := 344, descriptorIndex := 339, attributes := #[] }, { accessFlags := 8, nameIndex := 338, descriptorIndex := 339, attributes := #[] }, { accessFlags := 4120, nameIndex := 245, descriptorIndex := 246, attributes := #[] }])
  fields := #[{ name := "E", type := .double, accessFlags := 25, slot := 0, constantValue := 0 }, { name := "PI", type := .double, accessFlags := 25, slot := 1, constantValue := 0 }, { name := "TAU", type := .double, accessFlags := 25, slot := 2, constantValue := 0 }, { name := "DEGREES_TO_RADIANS", type := .double, accessFlags := 26, slot := 3, constantValue := 0 }, { name := "RADIANS_TO_DEGREES", type := .double, accessFlags := 26, slot := 4, constantValue := 0 }, { name := "negativeZeroFloatBits", type := .long, accessFlags := 26, slot := 5, constantValue := 0 }, { name := "negativeZeroDoubleBits", type := .long, accessFlags := 26, slot := 6, constantValue := 0 }, { name := "twoToTheDoubleScaleUp", type := .double, accessFlags := 8, slot := 7, constantValue := 0 }, { name := "twoToTheDoubleScaleDown", type := .double, accessFlags := 8, slot := 8, constantValue := 0 }, { name := "$assertionsDisabled", type := .boolean, accessFlags := 4120, slot := 9, constantValue := 0 }]
  methods := #[k22m0, k22m1, k22m2]
  instanceTypes := #[]
  staticTypes := #[.double, .double, .double, .double, .double, .long, .long, .double, .double, .boolean]
  resolved := Array.replicate 460 none
  statics := none }

def pool23 : Array CpInfo := pool [(2, .class_ 4), (1, u "java/lang/Object"), (0, u "<init>"), (0, u "()V"), (7, .class_ 16), (1, u "java/util/Arrays"), (57, .class_ 76), (1, u "java/util/Arrays$NaturalOrder"), (9, .methodref 2 87), (0, .nameAndType 88 89), (0, u "getClass"), (0, u "()Ljava/lang/Class;"), (20, .class_ 111), (0, u "[Ljava/lang/Object;"), (1, .class_ 115), (1, u "java/util/Arrays$LegacyMergeSort"), (1, u "Z"), (32, .methodref 151 152), (0, .class_ 153), (0, .nameAndType 154 155), (0, u "java/lang/System"), (0, u "arraycopy"), (0, u "(Ljava/lang/Object;ILjava/lang/Object;II)V"), (144, .methodref 14 301), (0, .nameAndType 302 303), (0, u "copyOf"), (0, u "([Ljava/lang/Object;ILjava/lang/Class;)[Ljava/lang/Object;"), (0, .methodref 305 306), (0, .class_ 307), (0, .nameAndType 308 309), (0, u "java/lang/Math"), (0, u "min"), (0, u "(II)I"), (65, .class_ 376), (0, u "java/util/Arrays$ArrayList"), (68, u "$assertionsDisabled"), (269, u "MIN_ARRAY_SORT_GRAN"), (0, u "I"), (2, u "INSERTIONSORT_THRESHOLD"), (140, u "([Ljava/lang/Object;I)[Ljava/lang/Object;"), (114, .class_ 976), (0, u "java/util/Arrays$ArrayItr")] 52

def k23m0 : Method := { name := "<init>", desc := "()V", sig := { parameters := [], returnType := none }, accessFlags := 2, code := none }
def k23c1 : Code := { maxStack := 3, maxLocals := 2, code := jdk_65_method_119_code, exceptionTable := #[], attributes := #[] }
def k23m1 : Method := { name := "copyOf", desc := "([Ljava/lang/Object;I)[Ljava/lang/Object;", sig := { parameters := [(.array (.object "java/lang/Object")), .int], returnType := some (.array (.object "java/lang/Object")) }, accessFlags := 9, code := some k23c1 }
def k23c2 : Code := { maxStack := 6, maxLocals := 4, code := jdk_65_method_120_code, exceptionTable := #[], attributes := #[] }
def k23m2 : Method := { name := "copyOf", desc := "([Ljava/lang/Object;ILjava/lang/Class;)[Ljava/lang/Object;", sig := { parameters := [(.array (.object "java/lang/Object")), .int, (.object "java/lang/Class")], returnType := some (.array (.object "java/lang/Object")) }, accessFlags := 9, code := some k23c2 }
/-- java/util/Arrays -/
def k23 : Class := { plain "java/util/Arrays" (some 0) with
  accessFlags := 49
  interfaces := #[]
  cf := some (fileOf pool23 14 #[.nestMembers #[975, 375, 113, 74]] #[{ accessFlags := 2, nameIndex := 5, descriptorIndex := 6, attributes := #[] }, { accessFlags := 9, nameIndex := 302, descriptorIndex := 860, attributes := #[] }, { accessFlags := 9, nameIndex := 302, descriptorIndex := 303, attributes := #[] }] 49 2 #[] #[{ accessFlags := 26, nameIndex := 715, descriptorIndex := 716, attributes := #[] }, { accessFlags := 26, nameIndex := 719, descriptorIndex := 716, attributes := #[] }, { accessFlags := 4120, nameIndex := 445, descriptorIndex := 117, attributes := #[] }])
  fields := #[{ name := "MIN_ARRAY_SORT_GRAN", type := .int, accessFlags := 26, slot := 0, constantValue := 0 }, { name := "INSERTIONSORT_THRESHOLD", type := .int, accessFlags := 26, slot := 1, constantValue := 0 }, { name := "$assertionsDisabled", type := .boolean, accessFlags := 4120, slot := 2, constantValue := 0 }]
  methods := #[k23m0, k23m1, k23m2]
  instanceTypes := #[]
  staticTypes := #[.int, .int, .boolean]
  resolved := Array.replicate 1029 none
  statics := none }

def pool24 : Array CpInfo := pool [(2, .class_ 4), (1, u "java/lang/Object"), (0, u "<init>"), (0, u "()V"), (1, .class_ 10), (1, u "java/lang/System"), (0, u "allowSecurityManager"), (0, u "I"), (16, u "cons"), (0, u "Ljava/io/Console;"), (77, .class_ 110), (1, u "java/lang/System$CallersHolder"), (43, u "initialErrStream"), (0, u "Ljava/io/PrintStream;"), (19, u "security"), (0, u "Ljava/lang/SecurityManager;"), (31, .class_ 209), (0, u "java/lang/System$1"), (7, u "props"), (0, u "Ljava/util/Properties;"), (2, u "lineSeparator"), (0, u "Ljava/lang/String;"), (96, .class_ 321), (1, u "java/lang/System$LoggerFinder"), (5, .class_ 328), (0, u "java/lang/System$Logger"), (67, u "err"), (2, u "out"), (91, u "notSupportedJnuEncoding"), (15, u "in"), (17, u "initialIn"), (0, u "Ljava/io/InputStream;"), (35, u "bootLayer"), (0, u "Ljava/lang/ModuleLayer;"), (99, .class_ 664), (0, u "java/lang/System$2"), (9, u "NEVER"), (2, u "MAYBE"), (49, u "arraycopy"), (0, u "(Ljava/lang/Object;ILjava/lang/Object;II)V"), (72, .class_ 802), (0, u "java/lang/System$Logger$Level")] 31

def k24m0 : Method := { name := "<init>", desc := "()V", sig := { parameters := [], returnType := none }, accessFlags := 2, code := none }
def k24m1 : Method := { name := "arraycopy", desc := "(Ljava/lang/Object;ILjava/lang/Object;II)V", sig := { parameters := [(.object "java/lang/Object"), .int, (.object "java/lang/Object"), .int, .int], returnType := none }, accessFlags := 265, code := none }
/-- java/lang/System -/
def k24 : Class := { plain "java/lang/System" (some 0) with
  accessFlags := 49
  interfaces := #[]
  cf := some (fileOf pool24 8 #[.nestMembers #[319, 327, 801, 108, 663, 208]] #[{ accessFlags := 2, nameIndex := 5, descriptorIndex := 6, attributes := #[] }, { accessFlags := 265, nameIndex := 727, descriptorIndex := 728, attributes := #[] }] 49 2 #[] #[{ accessFlags := 25, nameIndex := 507, descriptorIndex := 526, attributes := #[] }, { accessFlags := 25, nameIndex := 399, descriptorIndex := 155, attributes := #[] }, { accessFlags := 25, nameIndex := 396, descriptorIndex := 155, attributes := #[] }, { accessFlags := 10, nameIndex := 525, descriptorIndex := 526, attributes := #[] }, { accessFlags := 26, nameIndex := 674, descriptorIndex := 12, attributes := #[] }, { accessFlags := 26, nameIndex := 677, descriptorIndex := 12, attributes := #[] }, { accessFlags := 10, nameIndex := 11, descriptorIndex := 12, attributes := #[] }, { accessFlags := 74, nameIndex := 175, descriptorIndex := 176, attributes := #[] }, { accessFlags := 10, nameIndex := 491, descriptorIndex := 222, attributes := #[] }, { accessFlags := 74, nameIndex := 29, descriptorIndex := 30, attributes := #[] }, { accessFlags := 74, nameIndex := 154, descriptorIndex := 155, attributes := #[] }, { accessFlags := 10, nameIndex := 217, descriptorIndex := 218, attributes := #[] }, { accessFlags := 10, nameIndex := 221, descriptorIndex := 222, attributes := #[] }, { accessFlags := 8, nameIndex := 562, descriptorIndex := 563, attributes := #[] }])
  fields := #[{ name := "in", type := (.object "java/io/InputStream"), accessFlags := 25, slot := 0, constantValue := 0 }, { name := "out", type := (.object "java/io/PrintStream"), accessFlags := 25, slot := 1, constantValue := 0 }, { name := "err", type := (.object "java/io/PrintStream"), accessFlags := 25, slot := 2, constantValue := 0 }, { name := "initialIn", type := (.object "java/io/InputStream"), accessFlags := 10, slot := 3, constantValue := 0 }, { name := "NEVER", type := .int, accessFlags := 26, slot := 4, constantValue := 0 }, { name := "MAYBE", type := .int, accessFlags := 26, slot := 5, constantValue := 0 }, { name := "allowSecurityManager", type := .int, accessFlags := 10, slot := 6, constantValue := 0 }, { name := "security", type := (.object "java/lang/SecurityManager"), accessFlags := 74, slot := 7, constantValue := 0 }, { name := "notSupportedJnuEncoding", type := (.object "java/lang/String"), accessFlags := 10, slot := 8, constantValue := 0 }, { name := "cons", type := (.object "java/io/Console"), accessFlags := 74, slot := 9, constantValue := 0 }, { name := "initialErrStream", type := (.object "java/io/PrintStream"), accessFlags := 74, slot := 10, constantValue := 0 }, { name := "props", type := (.object "java/util/Properties"), accessFlags := 10, slot := 11, constantValue := 0 }, { name := "lineSeparator", type := (.object "java/lang/String"), accessFlags := 10, slot := 12, constantValue := 0 }, { name := "bootLayer", type := (.object "java/lang/ModuleLayer"), accessFlags := 8, slot := 13, constantValue := 0 }]
  methods := #[k24m0, k24m1]
  instanceTypes := #[]
  staticTypes := #[(.object "java/io/InputStream"), (.object "java/io/PrintStream"), (.object "java/io/PrintStream"), (.object "java/io/InputStream"), .int, .int, .int, (.object "java/lang/SecurityManager"), (.object "java/lang/String"), (.object "java/io/Console"), (.object "java/io/PrintStream"), (.object "java/util/Properties"), (.object "java/lang/String"), (.object "java/lang/ModuleLayer")]
  resolved := Array.replicate 834 none
  statics := none }

def pool25 : Array CpInfo := pool [(1, u "java/lang/Class"), (0, .class_ 1), (0, u "java/lang/Object"), (0, .class_ 3)] 0

/-- java/lang/Class -/
def k25 : Class := { plain "java/lang/Class" (some 0) with
  accessFlags := 49
  interfaces := #[]
  cf := some (fileOf pool25 2 #[] #[] 49 4 #[] #[])
  fields := #[]
  methods := #[]
  instanceTypes := #[]
  staticTypes := #[]
  resolved := Array.replicate 5 none
  statics := none }

/-- the primitive byte -/
def k26 : Class := { plain "byte" none with kind := .primitive 'B', accessFlags := 0x411 }
/-- [B -/
def k27 : Class := { plain "[B" (some 0) with kind := .array 26 .byte, interfaces := #[10, 11], accessFlags := 1041 }

/-- the primitive int -/
def k28 : Class := { plain "int" none with kind := .primitive 'I', accessFlags := 0x411 }
/-- [I -/
def k29 : Class := { plain "[I" (some 0) with kind := .array 28 .int, interfaces := #[10, 11], accessFlags := 1041 }

/-- [Ljava/lang/Integer; -/
def k30 : Class := { plain "[Ljava/lang/Integer;" (some 0) with kind := .array 17 (.object "java/lang/Integer"), interfaces := #[10, 11], accessFlags := 1041 }

/-- [Ljava/lang/Object; -/
def k31 : Class := { plain "[Ljava/lang/Object;" (some 0) with kind := .array 0 (.object "java/lang/Object"), interfaces := #[10, 11], accessFlags := 1041, mirror := some 1 }

def heap : Heap := #[{ cls := 18, slots := #[.int 0, .int 127, .ref 2, .null, .int 0], vm := .statics 18 },
  { cls := 25, slots := #[], vm := .mirror 31 },
  { cls := 30, slots := #[.ref 3, .ref 4, .ref 5, .ref 6, .ref 7, .ref 8, .ref 9, .ref 10, .ref 11, .ref 12, .ref 13, .ref 14, .ref 15, .ref 16, .ref 17, .ref 18, .ref 19, .ref 20, .ref 21, .ref 22, .ref 23, .ref 24, .ref 25, .ref 26, .ref 27, .ref 28, .ref 29, .ref 30, .ref 31, .ref 32, .ref 33, .ref 34, .ref 35, .ref 36, .ref 37, .ref 38, .ref 39, .ref 40, .ref 41, .ref 42, .ref 43, .ref 44, .ref 45, .ref 46, .ref 47, .ref 48, .ref 49, .ref 50, .ref 51, .ref 52, .ref 53, .ref 54, .ref 55, .ref 56, .ref 57, .ref 58, .ref 59, .ref 60, .ref 61, .ref 62, .ref 63, .ref 64, .ref 65, .ref 66, .ref 67, .ref 68, .ref 69, .ref 70, .ref 71, .ref 72, .ref 73, .ref 74, .ref 75, .ref 76, .ref 77, .ref 78, .ref 79, .ref 80, .ref 81, .ref 82, .ref 83, .ref 84, .ref 85, .ref 86, .ref 87, .ref 88, .ref 89, .ref 90, .ref 91, .ref 92, .ref 93, .ref 94, .ref 95, .ref 96, .ref 97, .ref 98, .ref 99, .ref 100, .ref 101, .ref 102, .ref 103, .ref 104, .ref 105, .ref 106, .ref 107, .ref 108, .ref 109, .ref 110, .ref 111, .ref 112, .ref 113, .ref 114, .ref 115, .ref 116, .ref 117, .ref 118, .ref 119, .ref 120, .ref 121, .ref 122, .ref 123, .ref 124, .ref 125, .ref 126, .ref 127, .ref 128, .ref 129, .ref 130, .ref 131, .ref 132, .ref 133, .ref 134, .ref 135, .ref 136, .ref 137, .ref 138, .ref 139, .ref 140, .ref 141, .ref 142, .ref 143, .ref 144, .ref 145, .ref 146, .ref 147, .ref 148, .ref 149, .ref 150, .ref 151, .ref 152, .ref 153, .ref 154, .ref 155, .ref 156, .ref 157, .ref 158, .ref 159, .ref 160, .ref 161, .ref 162, .ref 163, .ref 164, .ref 165, .ref 166, .ref 167, .ref 168, .ref 169, .ref 170, .ref 171, .ref 172, .ref 173, .ref 174, .ref 175, .ref 176, .ref 177, .ref 178, .ref 179, .ref 180, .ref 181, .ref 182, .ref 183, .ref 184, .ref 185, .ref 186, .ref 187, .ref 188, .ref 189, .ref 190, .ref 191, .ref 192, .ref 193, .ref 194, .ref 195, .ref 196, .ref 197, .ref 198, .ref 199, .ref 200, .ref 201, .ref 202, .ref 203, .ref 204, .ref 205, .ref 206, .ref 207, .ref 208, .ref 209, .ref 210, .ref 211, .ref 212, .ref 213, .ref 214, .ref 215, .ref 216, .ref 217, .ref 218, .ref 219, .ref 220, .ref 221, .ref 222, .ref 223, .ref 224, .ref 225, .ref 226, .ref 227, .ref 228, .ref 229, .ref 230, .ref 231, .ref 232, .ref 233, .ref 234, .ref 235, .ref 236, .ref 237, .ref 238, .ref 239, .ref 240, .ref 241, .ref 242, .ref 243, .ref 244, .ref 245, .ref 246, .ref 247, .ref 248, .ref 249, .ref 250, .ref 251, .ref 252, .ref 253, .ref 254, .ref 255, .ref 256, .ref 257, .ref 258], vm := .none },
  { cls := 17, slots := #[.int (-128)], vm := .none },
  { cls := 17, slots := #[.int (-127)], vm := .none },
  { cls := 17, slots := #[.int (-126)], vm := .none },
  { cls := 17, slots := #[.int (-125)], vm := .none },
  { cls := 17, slots := #[.int (-124)], vm := .none },
  { cls := 17, slots := #[.int (-123)], vm := .none },
  { cls := 17, slots := #[.int (-122)], vm := .none },
  { cls := 17, slots := #[.int (-121)], vm := .none },
  { cls := 17, slots := #[.int (-120)], vm := .none },
  { cls := 17, slots := #[.int (-119)], vm := .none },
  { cls := 17, slots := #[.int (-118)], vm := .none },
  { cls := 17, slots := #[.int (-117)], vm := .none },
  { cls := 17, slots := #[.int (-116)], vm := .none },
  { cls := 17, slots := #[.int (-115)], vm := .none },
  { cls := 17, slots := #[.int (-114)], vm := .none },
  { cls := 17, slots := #[.int (-113)], vm := .none },
  { cls := 17, slots := #[.int (-112)], vm := .none },
  { cls := 17, slots := #[.int (-111)], vm := .none },
  { cls := 17, slots := #[.int (-110)], vm := .none },
  { cls := 17, slots := #[.int (-109)], vm := .none },
  { cls := 17, slots := #[.int (-108)], vm := .none },
  { cls := 17, slots := #[.int (-107)], vm := .none },
  { cls := 17, slots := #[.int (-106)], vm := .none },
  { cls := 17, slots := #[.int (-105)], vm := .none },
  { cls := 17, slots := #[.int (-104)], vm := .none },
  { cls := 17, slots := #[.int (-103)], vm := .none },
  { cls := 17, slots := #[.int (-102)], vm := .none },
  { cls := 17, slots := #[.int (-101)], vm := .none },
  { cls := 17, slots := #[.int (-100)], vm := .none },
  { cls := 17, slots := #[.int (-99)], vm := .none },
  { cls := 17, slots := #[.int (-98)], vm := .none },
  { cls := 17, slots := #[.int (-97)], vm := .none },
  { cls := 17, slots := #[.int (-96)], vm := .none },
  { cls := 17, slots := #[.int (-95)], vm := .none },
  { cls := 17, slots := #[.int (-94)], vm := .none },
  { cls := 17, slots := #[.int (-93)], vm := .none },
  { cls := 17, slots := #[.int (-92)], vm := .none },
  { cls := 17, slots := #[.int (-91)], vm := .none },
  { cls := 17, slots := #[.int (-90)], vm := .none },
  { cls := 17, slots := #[.int (-89)], vm := .none },
  { cls := 17, slots := #[.int (-88)], vm := .none },
  { cls := 17, slots := #[.int (-87)], vm := .none },
  { cls := 17, slots := #[.int (-86)], vm := .none },
  { cls := 17, slots := #[.int (-85)], vm := .none },
  { cls := 17, slots := #[.int (-84)], vm := .none },
  { cls := 17, slots := #[.int (-83)], vm := .none },
  { cls := 17, slots := #[.int (-82)], vm := .none },
  { cls := 17, slots := #[.int (-81)], vm := .none },
  { cls := 17, slots := #[.int (-80)], vm := .none },
  { cls := 17, slots := #[.int (-79)], vm := .none },
  { cls := 17, slots := #[.int (-78)], vm := .none },
  { cls := 17, slots := #[.int (-77)], vm := .none },
  { cls := 17, slots := #[.int (-76)], vm := .none },
  { cls := 17, slots := #[.int (-75)], vm := .none },
  { cls := 17, slots := #[.int (-74)], vm := .none },
  { cls := 17, slots := #[.int (-73)], vm := .none },
  { cls := 17, slots := #[.int (-72)], vm := .none },
  { cls := 17, slots := #[.int (-71)], vm := .none },
  { cls := 17, slots := #[.int (-70)], vm := .none },
  { cls := 17, slots := #[.int (-69)], vm := .none },
  { cls := 17, slots := #[.int (-68)], vm := .none },
  { cls := 17, slots := #[.int (-67)], vm := .none },
  { cls := 17, slots := #[.int (-66)], vm := .none },
  { cls := 17, slots := #[.int (-65)], vm := .none },
  { cls := 17, slots := #[.int (-64)], vm := .none },
  { cls := 17, slots := #[.int (-63)], vm := .none },
  { cls := 17, slots := #[.int (-62)], vm := .none },
  { cls := 17, slots := #[.int (-61)], vm := .none },
  { cls := 17, slots := #[.int (-60)], vm := .none },
  { cls := 17, slots := #[.int (-59)], vm := .none },
  { cls := 17, slots := #[.int (-58)], vm := .none },
  { cls := 17, slots := #[.int (-57)], vm := .none },
  { cls := 17, slots := #[.int (-56)], vm := .none },
  { cls := 17, slots := #[.int (-55)], vm := .none },
  { cls := 17, slots := #[.int (-54)], vm := .none },
  { cls := 17, slots := #[.int (-53)], vm := .none },
  { cls := 17, slots := #[.int (-52)], vm := .none },
  { cls := 17, slots := #[.int (-51)], vm := .none },
  { cls := 17, slots := #[.int (-50)], vm := .none },
  { cls := 17, slots := #[.int (-49)], vm := .none },
  { cls := 17, slots := #[.int (-48)], vm := .none },
  { cls := 17, slots := #[.int (-47)], vm := .none },
  { cls := 17, slots := #[.int (-46)], vm := .none },
  { cls := 17, slots := #[.int (-45)], vm := .none },
  { cls := 17, slots := #[.int (-44)], vm := .none },
  { cls := 17, slots := #[.int (-43)], vm := .none },
  { cls := 17, slots := #[.int (-42)], vm := .none },
  { cls := 17, slots := #[.int (-41)], vm := .none },
  { cls := 17, slots := #[.int (-40)], vm := .none },
  { cls := 17, slots := #[.int (-39)], vm := .none },
  { cls := 17, slots := #[.int (-38)], vm := .none },
  { cls := 17, slots := #[.int (-37)], vm := .none },
  { cls := 17, slots := #[.int (-36)], vm := .none },
  { cls := 17, slots := #[.int (-35)], vm := .none },
  { cls := 17, slots := #[.int (-34)], vm := .none },
  { cls := 17, slots := #[.int (-33)], vm := .none },
  { cls := 17, slots := #[.int (-32)], vm := .none },
  { cls := 17, slots := #[.int (-31)], vm := .none },
  { cls := 17, slots := #[.int (-30)], vm := .none },
  { cls := 17, slots := #[.int (-29)], vm := .none },
  { cls := 17, slots := #[.int (-28)], vm := .none },
  { cls := 17, slots := #[.int (-27)], vm := .none },
  { cls := 17, slots := #[.int (-26)], vm := .none },
  { cls := 17, slots := #[.int (-25)], vm := .none },
  { cls := 17, slots := #[.int (-24)], vm := .none },
  { cls := 17, slots := #[.int (-23)], vm := .none },
  { cls := 17, slots := #[.int (-22)], vm := .none },
  { cls := 17, slots := #[.int (-21)], vm := .none },
  { cls := 17, slots := #[.int (-20)], vm := .none },
  { cls := 17, slots := #[.int (-19)], vm := .none },
  { cls := 17, slots := #[.int (-18)], vm := .none },
  { cls := 17, slots := #[.int (-17)], vm := .none },
  { cls := 17, slots := #[.int (-16)], vm := .none },
  { cls := 17, slots := #[.int (-15)], vm := .none },
  { cls := 17, slots := #[.int (-14)], vm := .none },
  { cls := 17, slots := #[.int (-13)], vm := .none },
  { cls := 17, slots := #[.int (-12)], vm := .none },
  { cls := 17, slots := #[.int (-11)], vm := .none },
  { cls := 17, slots := #[.int (-10)], vm := .none },
  { cls := 17, slots := #[.int (-9)], vm := .none },
  { cls := 17, slots := #[.int (-8)], vm := .none },
  { cls := 17, slots := #[.int (-7)], vm := .none },
  { cls := 17, slots := #[.int (-6)], vm := .none },
  { cls := 17, slots := #[.int (-5)], vm := .none },
  { cls := 17, slots := #[.int (-4)], vm := .none },
  { cls := 17, slots := #[.int (-3)], vm := .none },
  { cls := 17, slots := #[.int (-2)], vm := .none },
  { cls := 17, slots := #[.int (-1)], vm := .none },
  { cls := 17, slots := #[.int (0)], vm := .none },
  { cls := 17, slots := #[.int (1)], vm := .none },
  { cls := 17, slots := #[.int (2)], vm := .none },
  { cls := 17, slots := #[.int (3)], vm := .none },
  { cls := 17, slots := #[.int (4)], vm := .none },
  { cls := 17, slots := #[.int (5)], vm := .none },
  { cls := 17, slots := #[.int (6)], vm := .none },
  { cls := 17, slots := #[.int (7)], vm := .none },
  { cls := 17, slots := #[.int (8)], vm := .none },
  { cls := 17, slots := #[.int (9)], vm := .none },
  { cls := 17, slots := #[.int (10)], vm := .none },
  { cls := 17, slots := #[.int (11)], vm := .none },
  { cls := 17, slots := #[.int (12)], vm := .none },
  { cls := 17, slots := #[.int (13)], vm := .none },
  { cls := 17, slots := #[.int (14)], vm := .none },
  { cls := 17, slots := #[.int (15)], vm := .none },
  { cls := 17, slots := #[.int (16)], vm := .none },
  { cls := 17, slots := #[.int (17)], vm := .none },
  { cls := 17, slots := #[.int (18)], vm := .none },
  { cls := 17, slots := #[.int (19)], vm := .none },
  { cls := 17, slots := #[.int (20)], vm := .none },
  { cls := 17, slots := #[.int (21)], vm := .none },
  { cls := 17, slots := #[.int (22)], vm := .none },
  { cls := 17, slots := #[.int (23)], vm := .none },
  { cls := 17, slots := #[.int (24)], vm := .none },
  { cls := 17, slots := #[.int (25)], vm := .none },
  { cls := 17, slots := #[.int (26)], vm := .none },
  { cls := 17, slots := #[.int (27)], vm := .none },
  { cls := 17, slots := #[.int (28)], vm := .none },
  { cls := 17, slots := #[.int (29)], vm := .none },
  { cls := 17, slots := #[.int (30)], vm := .none },
  { cls := 17, slots := #[.int (31)], vm := .none },
  { cls := 17, slots := #[.int (32)], vm := .none },
  { cls := 17, slots := #[.int (33)], vm := .none },
  { cls := 17, slots := #[.int (34)], vm := .none },
  { cls := 17, slots := #[.int (35)], vm := .none },
  { cls := 17, slots := #[.int (36)], vm := .none },
  { cls := 17, slots := #[.int (37)], vm := .none },
  { cls := 17, slots := #[.int (38)], vm := .none },
  { cls := 17, slots := #[.int (39)], vm := .none },
  { cls := 17, slots := #[.int (40)], vm := .none },
  { cls := 17, slots := #[.int (41)], vm := .none },
  { cls := 17, slots := #[.int (42)], vm := .none },
  { cls := 17, slots := #[.int (43)], vm := .none },
  { cls := 17, slots := #[.int (44)], vm := .none },
  { cls := 17, slots := #[.int (45)], vm := .none },
  { cls := 17, slots := #[.int (46)], vm := .none },
  { cls := 17, slots := #[.int (47)], vm := .none },
  { cls := 17, slots := #[.int (48)], vm := .none },
  { cls := 17, slots := #[.int (49)], vm := .none },
  { cls := 17, slots := #[.int (50)], vm := .none },
  { cls := 17, slots := #[.int (51)], vm := .none },
  { cls := 17, slots := #[.int (52)], vm := .none },
  { cls := 17, slots := #[.int (53)], vm := .none },
  { cls := 17, slots := #[.int (54)], vm := .none },
  { cls := 17, slots := #[.int (55)], vm := .none },
  { cls := 17, slots := #[.int (56)], vm := .none },
  { cls := 17, slots := #[.int (57)], vm := .none },
  { cls := 17, slots := #[.int (58)], vm := .none },
  { cls := 17, slots := #[.int (59)], vm := .none },
  { cls := 17, slots := #[.int (60)], vm := .none },
  { cls := 17, slots := #[.int (61)], vm := .none },
  { cls := 17, slots := #[.int (62)], vm := .none },
  { cls := 17, slots := #[.int (63)], vm := .none },
  { cls := 17, slots := #[.int (64)], vm := .none },
  { cls := 17, slots := #[.int (65)], vm := .none },
  { cls := 17, slots := #[.int (66)], vm := .none },
  { cls := 17, slots := #[.int (67)], vm := .none },
  { cls := 17, slots := #[.int (68)], vm := .none },
  { cls := 17, slots := #[.int (69)], vm := .none },
  { cls := 17, slots := #[.int (70)], vm := .none },
  { cls := 17, slots := #[.int (71)], vm := .none },
  { cls := 17, slots := #[.int (72)], vm := .none },
  { cls := 17, slots := #[.int (73)], vm := .none },
  { cls := 17, slots := #[.int (74)], vm := .none },
  { cls := 17, slots := #[.int (75)], vm := .none },
  { cls := 17, slots := #[.int (76)], vm := .none },
  { cls := 17, slots := #[.int (77)], vm := .none },
  { cls := 17, slots := #[.int (78)], vm := .none },
  { cls := 17, slots := #[.int (79)], vm := .none },
  { cls := 17, slots := #[.int (80)], vm := .none },
  { cls := 17, slots := #[.int (81)], vm := .none },
  { cls := 17, slots := #[.int (82)], vm := .none },
  { cls := 17, slots := #[.int (83)], vm := .none },
  { cls := 17, slots := #[.int (84)], vm := .none },
  { cls := 17, slots := #[.int (85)], vm := .none },
  { cls := 17, slots := #[.int (86)], vm := .none },
  { cls := 17, slots := #[.int (87)], vm := .none },
  { cls := 17, slots := #[.int (88)], vm := .none },
  { cls := 17, slots := #[.int (89)], vm := .none },
  { cls := 17, slots := #[.int (90)], vm := .none },
  { cls := 17, slots := #[.int (91)], vm := .none },
  { cls := 17, slots := #[.int (92)], vm := .none },
  { cls := 17, slots := #[.int (93)], vm := .none },
  { cls := 17, slots := #[.int (94)], vm := .none },
  { cls := 17, slots := #[.int (95)], vm := .none },
  { cls := 17, slots := #[.int (96)], vm := .none },
  { cls := 17, slots := #[.int (97)], vm := .none },
  { cls := 17, slots := #[.int (98)], vm := .none },
  { cls := 17, slots := #[.int (99)], vm := .none },
  { cls := 17, slots := #[.int (100)], vm := .none },
  { cls := 17, slots := #[.int (101)], vm := .none },
  { cls := 17, slots := #[.int (102)], vm := .none },
  { cls := 17, slots := #[.int (103)], vm := .none },
  { cls := 17, slots := #[.int (104)], vm := .none },
  { cls := 17, slots := #[.int (105)], vm := .none },
  { cls := 17, slots := #[.int (106)], vm := .none },
  { cls := 17, slots := #[.int (107)], vm := .none },
  { cls := 17, slots := #[.int (108)], vm := .none },
  { cls := 17, slots := #[.int (109)], vm := .none },
  { cls := 17, slots := #[.int (110)], vm := .none },
  { cls := 17, slots := #[.int (111)], vm := .none },
  { cls := 17, slots := #[.int (112)], vm := .none },
  { cls := 17, slots := #[.int (113)], vm := .none },
  { cls := 17, slots := #[.int (114)], vm := .none },
  { cls := 17, slots := #[.int (115)], vm := .none },
  { cls := 17, slots := #[.int (116)], vm := .none },
  { cls := 17, slots := #[.int (117)], vm := .none },
  { cls := 17, slots := #[.int (118)], vm := .none },
  { cls := 17, slots := #[.int (119)], vm := .none },
  { cls := 17, slots := #[.int (120)], vm := .none },
  { cls := 17, slots := #[.int (121)], vm := .none },
  { cls := 17, slots := #[.int (122)], vm := .none },
  { cls := 17, slots := #[.int (123)], vm := .none },
  { cls := 17, slots := #[.int (124)], vm := .none },
  { cls := 17, slots := #[.int (125)], vm := .none },
  { cls := 17, slots := #[.int (126)], vm := .none },
  { cls := 17, slots := #[.int (127)], vm := .none }]
def classes : Array Class := #[k0, k1, k2, k3, k4, k5, k6, k7, k8, k9, k10, k11, k12, k13, k14, k15, k16, k17, k18, k19, k20, k21, k22, k23, k24, k25, k26, k27, k28, k29, k30, k31]
def interned : List (Array UInt16 × Addr) := []
def slotsUsed : Nat := 517
def theMethod : MethodId := ⟨1, 4⟩
def args0 : Array Value := #[.int 27, .int 3, .int 5, .int 7]
def aboutOver (below : List Frame) : State where
  vm := { classes := classes, interned := interned.toArray }
  heap := heap
  slotsUsed := slotsUsed
  threads := #[{ frames := .invoking theMethod args0 :: below }]
def below0 : List Frame := [.native { method := ⟨0, 0⟩, args := #[] }]
def about1 : State := aboutOver below0
def p0 : Program := .bare "" "" ""
def e0 : Env := launch0.env 0 0 0
theorem w_frames : about1.frames = Frame.invoking theMethod args0 :: below0 := rfl
set_option maxRecDepth 65536 in
theorem w_args : argsFit about1.vm theMethod args0 = true := by decide +kernel
set_option maxRecDepth 65536 in
theorem w_heap : heapFits about1 = true := by decide +kernel
set_option maxRecDepth 65536 in
theorem w_runnable : about1.curStatus? = some .runnable := by decide +kernel
set_option maxRecDepth 65536 in
theorem w_alone : about1.alone = true := by decide +kernel
set_option maxRecDepth 65536 in
theorem w_named : about1.methodNamed? x = some theMethod := by decide +kernel
set_option maxRecDepth 65536 in
theorem w_hears : about1.hears theMethod below0 = true := by decide +kernel
set_option maxRecDepth 65536 in
theorem w_ripe : about1.ripe theMethod args0 below0 = true := by decide +kernel
theorem w_running : about1.status = .running := rfl
set_option maxRecDepth 65536 in
theorem w_room : about1.hasRoom e0.platform room_1 = true :=
  launch0.hasRoom_least _ room_1 (by decide +kernel) (by decide +kernel) (by decide +kernel) (by decide +kernel) (by decide +kernel) (by decide +kernel)
theorem allAtoms_all (ts : List Jvm.Cond) (a : Array Jvm.Value) (st : Jvm.State) : (allAtoms ts).before a st = ts.all (fun c => c.before a st) := by
  induction ts with
  | nil => rfl
  | cons c t ih =>
    show (Jvm.Cond.and c (allAtoms t)).before a st = _
    rw [Jvm.Cond.before_and, ih, List.all_cons]
def words1 : List Jvm.Cond := Jvm.Cond.code x code maxLocals ret :: tables_1
/-- a 'code' word, met by the world's own term for the bytes: nothing is compared byte by byte -/
theorem code_word {y : MethodName} {bytes : ByteArray} {mx : Nat} {rt : Option FieldType} {a : Array Value} {s : State} {m : MethodId} {meth : Method} {c : Code} (h1 : s.methodNamed? y = some m) (h2 : s.vm.method? m = some meth) (h3 : meth.code = some c) (h4 : c.code = bytes)
    (h5 : (c.maxLocals == mx && c.exceptionTable.isEmpty && decide (c.maxStack ≤ mostOperands) && decide (meth.sig.returnType = rt) && !meth.locks && decide (parseMethodDescriptor y.desc = some meth.sig)) = true) : (Jvm.Cond.code y bytes mx rt).before a s = true := by
  simp only [Bool.and_eq_true, beq_iff_eq, Bool.not_eq_true', decide_eq_true_eq] at h5
  obtain ⟨⟨⟨⟨⟨g1, g2⟩, g3⟩, g4⟩, g5⟩, g6⟩ := h5
  simp [Cond.before, Cond.holds, Cond.value, h1, h2, h3, h4, g1, g2, g3, g4, g5, g6]
def isCode : Jvm.Cond → Bool
  | .code _ _ _ _ => true
  | _ => false
theorem all_split {L : List Jvm.Cond} {P : Jvm.Cond → Bool} (h1 : L.all (fun c => isCode c || P c) = true) (h2 : ∀ c ∈ L.filter isCode, P c = true) : L.all P = true := by
  refine List.all_eq_true.mpr fun c hc => ?_
  have h := List.all_eq_true.mp h1 c hc
  rcases Bool.eq_false_or_eq_true (isCode c) with hi | hi
  · exact h2 c (List.mem_filter.mpr ⟨hc, hi⟩)
  · simpa [hi] using h
set_option maxRecDepth 65536 in
theorem w_c0 : (Jvm.Cond.code x code maxLocals ret).before args0 about1 = true := code_word (m := ⟨1, 4⟩) (meth := k1m4) (c := k1c4) (by decide +kernel) rfl rfl rfl (by decide +kernel)
set_option maxRecDepth 65536 in
theorem w_c1 : (Jvm.Cond.code ({ cls := "com/example/dissect/dissect/RecentPlaces", name := "<init>", desc := "(I)V" } : Jvm.MethodName) prog_102_method_1_code (2 : Nat) (Option.none : Option Jvm.ClassFile.FieldType)).before args0 about1 = true := code_word (m := ⟨2, 0⟩) (meth := k2m0) (c := k2c0) (by decide +kernel) rfl rfl rfl (by decide +kernel)
set_option maxRecDepth 65536 in
theorem w_c2 : (Jvm.Cond.code ({ cls := "java/lang/Object", name := "<init>", desc := "()V" } : Jvm.MethodName) object_method_1_code (1 : Nat) (Option.none : Option Jvm.ClassFile.FieldType)).before args0 about1 = true := code_word (m := ⟨0, 0⟩) (meth := k0m0) (c := k0c0) (by decide +kernel) rfl rfl rfl (by decide +kernel)
set_option maxRecDepth 65536 in
theorem w_c3 : (Jvm.Cond.code ({ cls := "com/example/dissect/dissect/RecentPlaces", name := "put", desc := "(II)V" } : Jvm.MethodName) prog_102_method_2_code (3 : Nat) (Option.none : Option Jvm.ClassFile.FieldType)).before args0 about1 = true := code_word (m := ⟨2, 1⟩) (meth := k2m1) (c := k2c1) (by decide +kernel) rfl rfl rfl (by decide +kernel)
set_option maxRecDepth 65536 in
theorem w_c4 : (Jvm.Cond.code ({ cls := "com/example/dissect/dissect/RecentPlacesPutPinLaw", name := "expMoment", desc := "(IIIIIIIII)I" } : Jvm.MethodName) method_3_code (9 : Nat) (Option.some Jvm.ClassFile.FieldType.int)).before args0 about1 = true := code_word (m := ⟨1, 2⟩) (meth := k1m2) (c := k1c2) (by decide +kernel) rfl rfl rfl (by decide +kernel)
set_option maxRecDepth 65536 in
theorem w_c5 : (Jvm.Cond.code ({ cls := "com/example/dissect/dissect/RecentPlaces", name := "since", desc := "(I)Ljava/util/List;" } : Jvm.MethodName) prog_102_method_5_code (4 : Nat) (Option.some (Jvm.ClassFile.FieldType.object "java/util/List"))).before args0 about1 = true := code_word (m := ⟨2, 3⟩) (meth := k2m3) (c := k2c3) (by decide +kernel) rfl rfl rfl (by decide +kernel)
set_option maxRecDepth 65536 in
theorem w_c6 : (Jvm.Cond.code ({ cls := "java/util/ArrayList", name := "<init>", desc := "(I)V" } : Jvm.MethodName) jdk_38_method_1_code (2 : Nat) (Option.none : Option Jvm.ClassFile.FieldType)).before args0 about1 = true := code_word (m := ⟨12, 0⟩) (meth := k12m0) (c := k12c0) (by decide +kernel) rfl rfl rfl (by decide +kernel)
set_option maxRecDepth 65536 in
theorem w_c7 : (Jvm.Cond.code ({ cls := "java/util/AbstractList", name := "<init>", desc := "()V" } : Jvm.MethodName) jdk_39_method_1_code (1 : Nat) (Option.none : Option Jvm.ClassFile.FieldType)).before args0 about1 = true := code_word (m := ⟨8, 0⟩) (meth := k8m0) (c := k8c0) (by decide +kernel) rfl rfl rfl (by decide +kernel)
set_option maxRecDepth 65536 in
theorem w_c8 : (Jvm.Cond.code ({ cls := "java/util/AbstractCollection", name := "<init>", desc := "()V" } : Jvm.MethodName) jdk_22_method_1_code (1 : Nat) (Option.none : Option Jvm.ClassFile.FieldType)).before args0 about1 = true := code_word (m := ⟨5, 0⟩) (meth := k5m0) (c := k5c0) (by decide +kernel) rfl rfl rfl (by decide +kernel)
set_option maxRecDepth 65536 in
theorem w_c9 : (Jvm.Cond.code ({ cls := "java/lang/Integer", name := "valueOf", desc := "(I)Ljava/lang/Integer;" } : Jvm.MethodName) jdk_33_method_22_code (1 : Nat) (Option.some (Jvm.ClassFile.FieldType.object "java/lang/Integer"))).before args0 about1 = true := code_word (m := ⟨17, 0⟩) (meth := k17m0) (c := k17c0) (by decide +kernel) rfl rfl rfl (by decide +kernel)
set_option maxRecDepth 65536 in
theorem w_c10 : (Jvm.Cond.code ({ cls := "java/util/ArrayList", name := "add", desc := "(Ljava/lang/Object;)Z" } : Jvm.MethodName) jdk_38_method_25_code (2 : Nat) (Option.some Jvm.ClassFile.FieldType.boolean)).before args0 about1 = true := code_word (m := ⟨12, 8⟩) (meth := k12m8) (c := k12c8) (by decide +kernel) rfl rfl rfl (by decide +kernel)
set_option maxRecDepth 65536 in
theorem w_c11 : (Jvm.Cond.code ({ cls := "java/util/ArrayList", name := "add", desc := "(Ljava/lang/Object;[Ljava/lang/Object;I)V" } : Jvm.MethodName) jdk_38_method_24_code (4 : Nat) (Option.none : Option Jvm.ClassFile.FieldType)).before args0 about1 = true := code_word (m := ⟨12, 7⟩) (meth := k12m7) (c := k12c7) (by decide +kernel) rfl rfl rfl (by decide +kernel)
set_option maxRecDepth 65536 in
theorem w_c12 : (Jvm.Cond.code ({ cls := "java/util/ArrayList", name := "size", desc := "()I" } : Jvm.MethodName) jdk_38_method_8_code (1 : Nat) (Option.some Jvm.ClassFile.FieldType.int)).before args0 about1 = true := code_word (m := ⟨12, 4⟩) (meth := k12m4) (c := k12c4) (by decide +kernel) rfl rfl rfl (by decide +kernel)
set_option maxRecDepth 65536 in
theorem w_c13 : (Jvm.Cond.code ({ cls := "com/example/dissect/dissect/RecentPlacesPutPinLaw", name := "step", desc := "(Ljava/util/List;IIIIII)I" } : Jvm.MethodName) method_4_code (9 : Nat) (Option.some Jvm.ClassFile.FieldType.int)).before args0 about1 = true := code_word (m := ⟨1, 3⟩) (meth := k1m3) (c := k1c3) (by decide +kernel) rfl rfl rfl (by decide +kernel)
set_option maxRecDepth 65536 in
theorem w_c14 : (Jvm.Cond.code ({ cls := "java/util/ArrayList", name := "get", desc := "(I)Ljava/lang/Object;" } : Jvm.MethodName) jdk_38_method_20_code (2 : Nat) (Option.some (Jvm.ClassFile.FieldType.object "java/lang/Object"))).before args0 about1 = true := code_word (m := ⟨12, 6⟩) (meth := k12m6) (c := k12c6) (by decide +kernel) rfl rfl rfl (by decide +kernel)
set_option maxRecDepth 65536 in
theorem w_c15 : (Jvm.Cond.code ({ cls := "java/util/Objects", name := "checkIndex", desc := "(II)I" } : Jvm.MethodName) jdk_31_method_17_code (2 : Nat) (Option.some Jvm.ClassFile.FieldType.int)).before args0 about1 = true := code_word (m := ⟨19, 1⟩) (meth := k19m1) (c := k19c1) (by decide +kernel) rfl rfl rfl (by decide +kernel)
set_option maxRecDepth 65536 in
theorem w_c16 : (Jvm.Cond.code ({ cls := "jdk/internal/util/Preconditions", name := "checkIndex", desc := "(IILjava/util/function/BiFunction;)I" } : Jvm.MethodName) jdk_41_method_11_code (3 : Nat) (Option.some Jvm.ClassFile.FieldType.int)).before args0 about1 = true := code_word (m := ⟨20, 1⟩) (meth := k20m1) (c := k20c1) (by decide +kernel) rfl rfl rfl (by decide +kernel)
set_option maxRecDepth 65536 in
theorem w_c17 : (Jvm.Cond.code ({ cls := "java/util/ArrayList", name := "elementData", desc := "(I)Ljava/lang/Object;" } : Jvm.MethodName) jdk_38_method_18_code (2 : Nat) (Option.some (Jvm.ClassFile.FieldType.object "java/lang/Object"))).before args0 about1 = true := code_word (m := ⟨12, 5⟩) (meth := k12m5) (c := k12c5) (by decide +kernel) rfl rfl rfl (by decide +kernel)
set_option maxRecDepth 65536 in
theorem w_c18 : (Jvm.Cond.code ({ cls := "java/lang/Integer", name := "intValue", desc := "()I" } : Jvm.MethodName) jdk_33_method_27_code (1 : Nat) (Option.some Jvm.ClassFile.FieldType.int)).before args0 about1 = true := code_word (m := ⟨17, 1⟩) (meth := k17m1) (c := k17c1) (by decide +kernel) rfl rfl rfl (by decide +kernel)
set_option maxRecDepth 65536 in
theorem w_c19 : (Jvm.Cond.code ({ cls := "com/example/dissect/dissect/RecentPlacesPutPinLaw", name := "lastOf", desc := "(IIIII)I" } : Jvm.MethodName) method_2_code (5 : Nat) (Option.some Jvm.ClassFile.FieldType.int)).before args0 about1 = true := code_word (m := ⟨1, 1⟩) (meth := k1m1) (c := k1c1) (by decide +kernel) rfl rfl rfl (by decide +kernel)
set_option maxRecDepth 65536 in
theorem w_c20 : (Jvm.Cond.code ({ cls := "com/example/dissect/dissect/RecentPlaces", name := "putAt", desc := "(I)I" } : Jvm.MethodName) prog_102_method_4_code (2 : Nat) (Option.some Jvm.ClassFile.FieldType.int)).before args0 about1 = true := code_word (m := ⟨2, 2⟩) (meth := k2m2) (c := k2c2) (by decide +kernel) rfl rfl rfl (by decide +kernel)
set_option maxRecDepth 65536 in
theorem w_c21 : (Jvm.Cond.code ({ cls := "java/util/ArrayList", name := "grow", desc := "()[Ljava/lang/Object;" } : Jvm.MethodName) jdk_38_method_7_code (1 : Nat) (Option.some (Jvm.ClassFile.FieldType.array (Jvm.ClassFile.FieldType.object "java/lang/Object")))).before args0 about1 = true := code_word (m := ⟨12, 3⟩) (meth := k12m3) (c := k12c3) (by decide +kernel) rfl rfl rfl (by decide +kernel)
set_option maxRecDepth 65536 in
theorem w_c22 : (Jvm.Cond.code ({ cls := "java/util/ArrayList", name := "grow", desc := "(I)[Ljava/lang/Object;" } : Jvm.MethodName) jdk_38_method_6_code (4 : Nat) (Option.some (Jvm.ClassFile.FieldType.array (Jvm.ClassFile.FieldType.object "java/lang/Object")))).before args0 about1 = true := code_word (m := ⟨12, 2⟩) (meth := k12m2) (c := k12c2) (by decide +kernel) rfl rfl rfl (by decide +kernel)
set_option maxRecDepth 65536 in
theorem w_c23 : (Jvm.Cond.code ({ cls := "jdk/internal/util/ArraysSupport", name := "newLength", desc := "(III)I" } : Jvm.MethodName) jdk_48_method_27_code (4 : Nat) (Option.some Jvm.ClassFile.FieldType.int)).before args0 about1 = true := code_word (m := ⟨21, 1⟩) (meth := k21m1) (c := k21c1) (by decide +kernel) rfl rfl rfl (by decide +kernel)
set_option maxRecDepth 65536 in
theorem w_c24 : (Jvm.Cond.code ({ cls := "java/lang/Math", name := "max", desc := "(II)I" } : Jvm.MethodName) jdk_29_method_65_code (2 : Nat) (Option.some Jvm.ClassFile.FieldType.int)).before args0 about1 = true := code_word (m := ⟨22, 1⟩) (meth := k22m1) (c := k22c1) (by decide +kernel) rfl rfl rfl (by decide +kernel)
set_option maxRecDepth 65536 in
theorem w_c25 : (Jvm.Cond.code ({ cls := "java/util/Arrays", name := "copyOf", desc := "([Ljava/lang/Object;I)[Ljava/lang/Object;" } : Jvm.MethodName) jdk_65_method_119_code (2 : Nat) (Option.some (Jvm.ClassFile.FieldType.array (Jvm.ClassFile.FieldType.object "java/lang/Object")))).before args0 about1 = true := code_word (m := ⟨23, 1⟩) (meth := k23m1) (c := k23c1) (by decide +kernel) rfl rfl rfl (by decide +kernel)
set_option maxRecDepth 65536 in
theorem w_c26 : (Jvm.Cond.code ({ cls := "java/util/Arrays", name := "copyOf", desc := "([Ljava/lang/Object;ILjava/lang/Class;)[Ljava/lang/Object;" } : Jvm.MethodName) jdk_65_method_120_code (4 : Nat) (Option.some (Jvm.ClassFile.FieldType.array (Jvm.ClassFile.FieldType.object "java/lang/Object")))).before args0 about1 = true := code_word (m := ⟨23, 2⟩) (meth := k23m2) (c := k23c2) (by decide +kernel) rfl rfl rfl (by decide +kernel)
set_option maxRecDepth 65536 in
theorem w_c27 : (Jvm.Cond.code ({ cls := "java/lang/Math", name := "min", desc := "(II)I" } : Jvm.MethodName) jdk_29_method_69_code (2 : Nat) (Option.some Jvm.ClassFile.FieldType.int)).before args0 about1 = true := code_word (m := ⟨22, 2⟩) (meth := k22m2) (c := k22c2) (by decide +kernel) rfl rfl rfl (by decide +kernel)
def codes1 : List Jvm.Cond := [Jvm.Cond.code x code maxLocals ret, Jvm.Cond.code ({ cls := "com/example/dissect/dissect/RecentPlaces", name := "<init>", desc := "(I)V" } : Jvm.MethodName) prog_102_method_1_code (2 : Nat) (Option.none : Option Jvm.ClassFile.FieldType), Jvm.Cond.code ({ cls := "java/lang/Object", name := "<init>", desc := "()V" } : Jvm.MethodName) object_method_1_code (1 : Nat) (Option.none : Option Jvm.ClassFile.FieldType), Jvm.Cond.code ({ cls := "com/example/dissect/dissect/RecentPlaces", name := "put", desc := "(II)V" } : Jvm.MethodName) prog_102_method_2_code (3 : Nat) (Option.none : Option Jvm.ClassFile.FieldType), Jvm.Cond.code ({ cls := "com/example/dissect/dissect/RecentPlacesPutPinLaw", name := "expMoment", desc := "(IIIIIIIII)I" } : Jvm.MethodName) method_3_code (9 : Nat) (Option.some Jvm.ClassFile.FieldType.int), Jvm.Cond.code ({ cls := "com/example/dissect/dissect/RecentPlaces", name := "since", desc := "(I)Ljava/util/List;" } : Jvm.MethodName) prog_102_method_5_code (4 : Nat) (Option.some (Jvm.ClassFile.FieldType.object "java/util/List")), Jvm.Cond.code ({ cls := "java/util/ArrayList", name := "<init>", desc := "(I)V" } : Jvm.MethodName) jdk_38_method_1_code (2 : Nat) (Option.none : Option Jvm.ClassFile.FieldType), Jvm.Cond.code ({ cls := "java/util/AbstractList", name := "<init>", desc := "()V" } : Jvm.MethodName) jdk_39_method_1_code (1 : Nat) (Option.none : Option Jvm.ClassFile.FieldType), Jvm.Cond.code ({ cls := "java/util/AbstractCollection", name := "<init>", desc := "()V" } : Jvm.MethodName) jdk_22_method_1_code (1 : Nat) (Option.none : Option Jvm.ClassFile.FieldType), Jvm.Cond.code ({ cls := "java/lang/Integer", name := "valueOf", desc := "(I)Ljava/lang/Integer;" } : Jvm.MethodName) jdk_33_method_22_code (1 : Nat) (Option.some (Jvm.ClassFile.FieldType.object "java/lang/Integer")), Jvm.Cond.code ({ cls := "java/util/ArrayList", name := "add", desc := "(Ljava/lang/Object;)Z" } : Jvm.MethodName) jdk_38_method_25_code (2 : Nat) (Option.some Jvm.ClassFile.FieldType.boolean), Jvm.Cond.code ({ cls := "java/util/ArrayList", name := "add", desc := "(Ljava/lang/Object;[Ljava/lang/Object;I)V" } : Jvm.MethodName) jdk_38_method_24_code (4 : Nat) (Option.none : Option Jvm.ClassFile.FieldType), Jvm.Cond.code ({ cls := "java/util/ArrayList", name := "size", desc := "()I" } : Jvm.MethodName) jdk_38_method_8_code (1 : Nat) (Option.some Jvm.ClassFile.FieldType.int), Jvm.Cond.code ({ cls := "com/example/dissect/dissect/RecentPlacesPutPinLaw", name := "step", desc := "(Ljava/util/List;IIIIII)I" } : Jvm.MethodName) method_4_code (9 : Nat) (Option.some Jvm.ClassFile.FieldType.int), Jvm.Cond.code ({ cls := "java/util/ArrayList", name := "get", desc := "(I)Ljava/lang/Object;" } : Jvm.MethodName) jdk_38_method_20_code (2 : Nat) (Option.some (Jvm.ClassFile.FieldType.object "java/lang/Object")), Jvm.Cond.code ({ cls := "java/util/Objects", name := "checkIndex", desc := "(II)I" } : Jvm.MethodName) jdk_31_method_17_code (2 : Nat) (Option.some Jvm.ClassFile.FieldType.int), Jvm.Cond.code ({ cls := "jdk/internal/util/Preconditions", name := "checkIndex", desc := "(IILjava/util/function/BiFunction;)I" } : Jvm.MethodName) jdk_41_method_11_code (3 : Nat) (Option.some Jvm.ClassFile.FieldType.int), Jvm.Cond.code ({ cls := "java/util/ArrayList", name := "elementData", desc := "(I)Ljava/lang/Object;" } : Jvm.MethodName) jdk_38_method_18_code (2 : Nat) (Option.some (Jvm.ClassFile.FieldType.object "java/lang/Object")), Jvm.Cond.code ({ cls := "java/lang/Integer", name := "intValue", desc := "()I" } : Jvm.MethodName) jdk_33_method_27_code (1 : Nat) (Option.some Jvm.ClassFile.FieldType.int), Jvm.Cond.code ({ cls := "com/example/dissect/dissect/RecentPlacesPutPinLaw", name := "lastOf", desc := "(IIIII)I" } : Jvm.MethodName) method_2_code (5 : Nat) (Option.some Jvm.ClassFile.FieldType.int), Jvm.Cond.code ({ cls := "com/example/dissect/dissect/RecentPlaces", name := "putAt", desc := "(I)I" } : Jvm.MethodName) prog_102_method_4_code (2 : Nat) (Option.some Jvm.ClassFile.FieldType.int), Jvm.Cond.code ({ cls := "java/util/ArrayList", name := "grow", desc := "()[Ljava/lang/Object;" } : Jvm.MethodName) jdk_38_method_7_code (1 : Nat) (Option.some (Jvm.ClassFile.FieldType.array (Jvm.ClassFile.FieldType.object "java/lang/Object"))), Jvm.Cond.code ({ cls := "java/util/ArrayList", name := "grow", desc := "(I)[Ljava/lang/Object;" } : Jvm.MethodName) jdk_38_method_6_code (4 : Nat) (Option.some (Jvm.ClassFile.FieldType.array (Jvm.ClassFile.FieldType.object "java/lang/Object"))), Jvm.Cond.code ({ cls := "jdk/internal/util/ArraysSupport", name := "newLength", desc := "(III)I" } : Jvm.MethodName) jdk_48_method_27_code (4 : Nat) (Option.some Jvm.ClassFile.FieldType.int), Jvm.Cond.code ({ cls := "java/lang/Math", name := "max", desc := "(II)I" } : Jvm.MethodName) jdk_29_method_65_code (2 : Nat) (Option.some Jvm.ClassFile.FieldType.int), Jvm.Cond.code ({ cls := "java/util/Arrays", name := "copyOf", desc := "([Ljava/lang/Object;I)[Ljava/lang/Object;" } : Jvm.MethodName) jdk_65_method_119_code (2 : Nat) (Option.some (Jvm.ClassFile.FieldType.array (Jvm.ClassFile.FieldType.object "java/lang/Object"))), Jvm.Cond.code ({ cls := "java/util/Arrays", name := "copyOf", desc := "([Ljava/lang/Object;ILjava/lang/Class;)[Ljava/lang/Object;" } : Jvm.MethodName) jdk_65_method_120_code (4 : Nat) (Option.some (Jvm.ClassFile.FieldType.array (Jvm.ClassFile.FieldType.object "java/lang/Object"))), Jvm.Cond.code ({ cls := "java/lang/Math", name := "min", desc := "(II)I" } : Jvm.MethodName) jdk_29_method_69_code (2 : Nat) (Option.some Jvm.ClassFile.FieldType.int)]
set_option maxRecDepth 65536 in
theorem codes_eq : words1.filter isCode = codes1 := rfl
theorem w_codes : ∀ c ∈ words1.filter isCode, c.before args0 about1 = true := by
  rw [codes_eq]
  intro c hc
  simp only [codes1, List.mem_cons, List.not_mem_nil, or_false] at hc
  rcases hc with rfl | rfl | rfl | rfl | rfl | rfl | rfl | rfl | rfl | rfl | rfl | rfl | rfl | rfl | rfl | rfl | rfl | rfl | rfl | rfl | rfl | rfl | rfl | rfl | rfl | rfl | rfl | rfl
  · exact w_c0
  · exact w_c1
  · exact w_c2
  · exact w_c3
  · exact w_c4
  · exact w_c5
  · exact w_c6
  · exact w_c7
  · exact w_c8
  · exact w_c9
  · exact w_c10
  · exact w_c11
  · exact w_c12
  · exact w_c13
  · exact w_c14
  · exact w_c15
  · exact w_c16
  · exact w_c17
  · exact w_c18
  · exact w_c19
  · exact w_c20
  · exact w_c21
  · exact w_c22
  · exact w_c23
  · exact w_c24
  · exact w_c25
  · exact w_c26
  · exact w_c27
set_option maxRecDepth 65536 in
theorem w_t1 : (words1.take 24).all (fun c => isCode c || c.before args0 about1) = true := by decide +kernel
set_option maxRecDepth 65536 in
theorem w_t2 : ((words1.drop 24).take 24).all (fun c => isCode c || c.before args0 about1) = true := by decide +kernel
set_option maxRecDepth 65536 in
theorem w_t3 : (((words1.drop 24).drop 24).take 24).all (fun c => isCode c || c.before args0 about1) = true := by decide +kernel
set_option maxRecDepth 65536 in
theorem w_t4 : ((((words1.drop 24).drop 24).drop 24).take 24).all (fun c => isCode c || c.before args0 about1) = true := by decide +kernel
set_option maxRecDepth 65536 in
theorem w_t5 : (((((words1.drop 24).drop 24).drop 24).drop 24).take 24).all (fun c => isCode c || c.before args0 about1) = true := by decide +kernel
set_option maxRecDepth 65536 in
theorem w_t6 : ((((((words1.drop 24).drop 24).drop 24).drop 24).drop 24).take 24).all (fun c => isCode c || c.before args0 about1) = true := by decide +kernel
set_option maxRecDepth 65536 in
theorem w_t7 : (((((((words1.drop 24).drop 24).drop 24).drop 24).drop 24).drop 24).take 24).all (fun c => isCode c || c.before args0 about1) = true := by decide +kernel
set_option maxRecDepth 65536 in
theorem w_t8 : (((((((words1.drop 24).drop 24).drop 24).drop 24).drop 24).drop 24).drop 24).all (fun c => isCode c || c.before args0 about1) = true := by decide +kernel
theorem w_tables : (allAtoms (Jvm.Cond.code x code maxLocals ret :: tables_1)).before args0 about1 = true := by
  rw [allAtoms_all]
  show words1.all (fun c => c.before args0 about1) = true
  refine all_split ?_ w_codes
  rw [← List.take_append_drop 24 words1, List.all_append, w_t1, ← List.take_append_drop 24 (words1.drop 24), List.all_append, w_t2, ← List.take_append_drop 24 ((words1.drop 24).drop 24), List.all_append, w_t3, ← List.take_append_drop 24 (((words1.drop 24).drop 24).drop 24), List.all_append, w_t4, ← List.take_append_drop 24 ((((words1.drop 24).drop 24).drop 24).drop 24), List.all_append, w_t5, ← List.take_append_drop 24 (((((words1.drop 24).drop 24).drop 24).drop 24).drop 24), List.all_append, w_t6, ← List.take_append_drop 24 ((((((words1.drop 24).drop 24).drop 24).drop 24).drop 24).drop 24), List.all_append, w_t7, w_t8]
  rfl
set_option maxRecDepth 65536 in
theorem w_rest : rest_1_c.before args0 about1 = true := by decide +kernel
set_option maxRecDepth 65536 in
theorem w_case : (Jvm.Cond.and given_1 narrow_1).before args0 about1 = true := by decide +kernel
theorem w_applies : (headSpec (Jvm.Cond.code x code maxLocals ret :: tables_1) room_1).applies x e0.platform about1 = true :=
  (Spec.applies_iff w_frames).mpr ⟨w_running, w_runnable, w_alone, w_named, w_hears, w_ripe, w_room, w_tables⟩
set_option maxRecDepth 65536 in
theorem atStart : AtStart classFile x code maxLocals ret World_1 tables_1 room_1 Calls_1 rest_1 Pre_1 launch0 p0 e0 about1 theMethod args0 below0 :=
  ⟨lists_1, trivial, launch0.admits_env _ _ _, launch0.least_env, fairChoices_fair.cas, fairChoices_fair.clock, w_frames, w_args, w_heap, w_applies, ⟨⟨31, k31, 1, by decide +kernel, rfl, rfl, _, rfl, rfl⟩, trivial⟩, w_rest, w_case⟩
end start1
theorem witness_1 : WitnessClaimed_1 := ⟨start1.p0, start1.e0, start1.about1, start1.theMethod, start1.args0, start1.below0, start1.atStart⟩
end Jvm.Pilot.@@N@@
