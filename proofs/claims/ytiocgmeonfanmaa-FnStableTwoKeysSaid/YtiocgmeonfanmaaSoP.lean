/-
  From the sorted array of indices to lists of items; weak orders; the stable order of a list is one.
-/
import Derived.Test.YtiocgmeonfanmaaStB
namespace Go.Proofs.Ytiocgmeonfanmaa
open Go.RowKit Go.Sort Go.Shelf
set_option linter.unusedVariables false
set_option linter.unusedSimpArgs false

/-- the item at a place -/
def at0 (zs : List (Int × Int)) (i : Nat) : Int × Int := zs[i]?.getD (0, 0)
def sgn (x : Int) : Int := if x < 0 then -1 else if 0 < x then 1 else 0
/-- an order is weak on some items -/
def WeakP (s : Int) (os : List Int) (zs : List (Int × Int)) : Prop :=
  ∀ a ∈ zs, cmpO s os a.1 a.1 = 0 ∧ ∀ b ∈ zs, sgn (cmpO s os a.1 b.1) = - sgn (cmpO s os b.1 a.1) ∧ ∀ c ∈ zs, cmpO s os a.1 b.1 ≤ 0 → cmpO s os b.1 c.1 ≤ 0 → cmpO s os a.1 c.1 ≤ 0
theorem sgn_flip {x y : Int} (h : sgn x = - sgn y) : (x < 0 ↔ 0 < y) ∧ (0 < x ↔ y < 0) := by
  unfold sgn at h
  constructor <;> constructor <;> intro k <;> (repeat' split at h) <;> omega
theorem WeakP.swo {s : Int} {os : List Int} {zs : List (Int × Int)} (h : WeakP s os zs) {α : Type} (it : α → Int × Int) (hit : ∀ x, it x ∈ zs) : SWO (ltOf (cfI s os it)) where
  irrefl := fun x => by simp [ltOf, cfI, (h _ (hit x)).1]
  trans := fun x y z h1 h2 => by
    have h1 : cmpO s os (it x).1 (it y).1 < 0 := of_decide_eq_true h1
    have h2 : cmpO s os (it y).1 (it z).1 < 0 := of_decide_eq_true h2
    refine decide_eq_true (?_ : cmpO s os (it x).1 (it z).1 < 0)
    have hz := (h _ (hit x)).2 _ (hit z)
    have hxy := (h _ (hit x)).2 _ (hit y)
    have hyz := (h _ (hit y)).2 _ (hit z)
    have hzx := (h _ (hit z)).2 _ (hit x)
    have t1 := hxy.2 _ (hit z) (by omega) (by omega)
    have f1 := sgn_flip hz.1
    have f2 := sgn_flip hyz.1
    rcases Int.lt_or_eq_of_le t1 with k | k
    · exact k
    · have t2 := hzx.2 _ (hit y) (by have := f1.1; omega) (by omega)
      have := f2.1.1 h2
      omega
  ntrans := fun x y z h1 h2 => by
    have h1 : ¬ cmpO s os (it x).1 (it y).1 < 0 := of_decide_eq_false h1
    have h2 : ¬ cmpO s os (it y).1 (it z).1 < 0 := of_decide_eq_false h2
    refine decide_eq_false (?_ : ¬ cmpO s os (it x).1 (it z).1 < 0)
    have hxy := sgn_flip ((h _ (hit x)).2 _ (hit y)).1
    have hyz := sgn_flip ((h _ (hit y)).2 _ (hit z)).1
    have hxz := sgn_flip ((h _ (hit x)).2 _ (hit z)).1
    have hzy := (h _ (hit z)).2 _ (hit y)
    have t := hzy.2 _ (hit x) (by have := hyz.1; omega) (by have := hxy.1; omega)
    have := hxz.1
    omega
/-- i belongs before j in the stable order of the list -/
def BefL (s : Int) (os : List Int) (zs : List (Int × Int)) (i j : Nat) : Prop := Bef (ltOf (cfI s os (at0 zs))) id i j
/-- ts is zs in stable order: a list of its places -/
def StS (s : Int) (os : List Int) (zs ts : List (Int × Int)) : Prop := ∃ js : List Nat, js.Perm (List.range zs.length) ∧ ts = js.map (at0 zs) ∧ js.Pairwise (BefL s os zs)
theorem at0_mem {zs : List (Int × Int)} {i : Nat} (h : i < zs.length) : at0 zs i ∈ zs := by simp [at0, h]
theorem map_at0 (zs : List (Int × Int)) : (List.range zs.length).map (at0 zs) = zs := by
  apply List.ext_getElem?
  intro i
  by_cases h : i < zs.length
  · simp [h, at0]
  · simp [h, Nat.not_lt.1 h]
theorem StS.perm {s : Int} {os : List Int} {zs ts : List (Int × Int)} (h : StS s os zs ts) : ts.Perm zs := by
  obtain ⟨js, h1, rfl, _⟩ := h
  have := h1.map (at0 zs)
  rwa [map_at0] at this
theorem StS.unique {s : Int} {os : List Int} {zs ts us : List (Int × Int)} (h : StS s os zs ts) (k : StS s os zs us) : ts = us := by
  obtain ⟨js, h1, rfl, h2⟩ := h
  obtain ⟨ks, k1, rfl, k2⟩ := k
  rw [(h1.trans k1.symm).eq_of_pairwise (fun a b _ _ e1 e2 => by
    rcases e1.2 with x | x
    · rw [e2.1] at x; cases x
    · rcases e2.2 with y | y
      · rw [e1.1] at y; cases y
      · simp only [id] at x y; omega) h2 k2]

/-! ### arrays of indices -/
def idxs (m : Nat) : Array (Fin (m + 1)) := Array.ofFn id
def itF (zs : List (Int × Int)) (m : Nat) (i : Fin (m + 1)) : Int × Int := at0 zs i.val
theorem idxs_size (m : Nat) : (idxs m).size = m + 1 := by simp [idxs]
theorem idxs_at (m p : Nat) (h : p < m + 1) : (idxs m)[p]!.val = p := by simp [idxs, h]
theorem idxs_get {m i : Nat} (h : i < m + 1) : (idxs m).toList[i]? = some ⟨i, h⟩ := by
  rw [Array.getElem?_toList, Array.getElem?_eq_getElem (by rw [idxs_size]; exact h)]
  simp only [idxs, Array.getElem_ofFn, id]
theorem idxs_none {m i : Nat} (h : ¬ i < m + 1) : (idxs m).toList[i]? = none := by
  rw [Array.getElem?_toList]
  exact Array.getElem?_eq_none (by rw [idxs_size]; omega)
theorem idxs_items {zs : List (Int × Int)} {m : Nat} (hl : zs.length = m + 1) : (idxs m).toList.map (itF zs m) = zs := by
  apply List.ext_getElem?
  intro i
  rw [List.getElem?_map]
  by_cases h : i < m + 1
  · rw [idxs_get h]
    have h2 : i < zs.length := by omega
    simp [itF, at0, h2]
  · rw [idxs_none h, List.getElem?_eq_none (by omega)]; rfl
theorem idxs_vals (m : Nat) : (idxs m).toList.map Fin.val = List.range (m + 1) := by
  apply List.ext_getElem?
  intro i
  rw [List.getElem?_map]
  by_cases h : i < m + 1
  · rw [idxs_get h]; simp [h]
  · rw [idxs_none h, List.getElem?_eq_none (by simp; omega)]; rfl
theorem permAll {α : Type} [Inhabited α] {d d' : Array α} (h : PermIn 0 d.size d d') : d'.toList.Perm d.toList := by
  have h2 := h.2.2
  have e : d'.size = d.size := h.1
  simp only [Array.toList_extract, List.extract_eq_take_drop, List.drop_zero, Nat.sub_zero] at h2
  rwa [List.take_of_length_le (by simp [e]), List.take_of_length_le (by simp)] at h2
theorem items_perm {zs : List (Int × Int)} {m : Nat} (hl : zs.length = m + 1) {d : Array (Fin (m + 1))} (h : PermIn 0 (idxs m).size (idxs m) d) : (d.toList.map (itF zs m)).Perm zs := by
  have := (permAll h).map (itF zs m)
  rwa [idxs_items hl] at this
theorem items_sts {s : Int} {os : List Int} {zs : List (Int × Int)} {m : Nat} (hl : zs.length = m + 1) {d : Array (Fin (m + 1))} (h : PermIn 0 (idxs m).size (idxs m) d) (ho : Ord (ltOf (cfI s os (itF zs m))) Fin.val 0 (idxs m).size d) : StS s os zs (d.toList.map (itF zs m)) := by
  refine ⟨d.toList.map Fin.val, ?_, by simp [List.map_map, Function.comp_def, itF], ?_⟩
  · have := (permAll h).map Fin.val
    rw [idxs_vals] at this
    rw [hl]
    exact this
  · rw [List.pairwise_map, List.pairwise_iff_getElem]
    intro i j hi hj hij
    have hs : d.size = m + 1 := by have := h.1; rwa [idxs_size] at this
    simp at hi hj
    have := ho i j (Nat.zero_le _) hij (by rw [idxs_size]; omega)
    simp [hi, hj] at this
    exact this
theorem itF_mem {zs : List (Int × Int)} {m : Nat} (hl : zs.length = m + 1) (x : Fin (m + 1)) : itF zs m x ∈ zs := at0_mem (by rw [hl]; exact x.2)

/-! ### the row -/
theorem flatI {α : Type} [Inhabited α] (it : α → Int × Int) (d : Array α) : flatK (encI it) 2 d = (pairs (d.toList.map it)).toArray := by
  have hl : (pairs (d.toList.map it)).length = d.size * 2 := by rw [pairs_length]; simp
  refine ext_get! (by simp [hl]) fun t ht => ?_
  rw [size_flatK] at ht
  rw [get_flatK _ _ _ _ ht]
  have hk : (d.toList.map it)[t / 2]? = some (it d[t / 2]!) := by
    have h2 : t / 2 < d.size := by omega
    simp [h2]
  obtain ⟨p1, p2⟩ := pairs_at hk
  rcases Nat.mod_two_eq_zero_or_one t with hm | hm
  · rw [show t / 2 * 2 = t by omega] at p1
    rw [hm]
    simp [encI, p1]
  · rw [show t / 2 * 2 + 1 = t by omega] at p2
    rw [hm]
    simp [encI, p2]
theorem holds_of_blockV {w : World} {g : Nat} {cur : Array Value} {e : TypeId} {F : List Value} (hb : w.heap[g]? = some (.cells cur e (0, 0))) (ht : cur.toList.take F.length = F) : Holds id w g 0 F.toArray := by
  intro j hj
  have hj' : j < F.length := by simpa using hj
  refine ⟨?_, by simp [World.frozen?, hb]⟩
  have h1 : (cur.toList.take F.length)[j]? = F[j]? := by rw [ht]
  rw [List.getElem?_take_of_lt hj'] at h1
  simp only [World.cell?, hb, Nat.zero_add]
  simp only [Option.isSome_none, Bool.false_eq_true, if_false]
  rw [← Array.getElem?_toList, h1]
  simp [hj']
theorem heap_sortedV {w : World} {g n : Nat} {os : Array Obj} {cur : Array Value} {e : TypeId} {fr : Nat × Nat} (d : Array Value) (hb : w.heap[g]? = some (.cells cur e fr)) :
    (grow (putRow id (Sort.ahead w n) g 0 d) os).heap[g]? = some (.cells (putCells id 0 d cur) e fr) := by
  have hg : g < w.heap.size := (Array.getElem?_eq_some_iff.1 hb).1
  rw [heap_grow_old _ _ (by simpa using hg)]
  simp [putRow, mapBlock, Sort.ahead, Array.getElem?_modify, hb, onCells]
theorem grownBy_sortedV {w : World} {g n : Nat} {os : Array Obj} (d : Array Value) : w.grownBy (grow (putRow id (Sort.ahead w n) g 0 d) os) (some g) := by
  refine ⟨rfl, rfl, rfl, by simp, fun k hk hne => ?_⟩
  rw [heap_grow_old _ _ (by simpa using hk)]
  have : g ≠ k := fun e => hne (by rw [e])
  simp [putRow, mapBlock, Sort.ahead, Array.getElem?_modify, this]
theorem take_putCellsV (cur : Array Value) (ts : List Value) (h : ts.length ≤ cur.size) : (putCells id 0 ts.toArray cur).toList.take ts.length = ts := by
  apply List.ext_getElem?
  intro j
  by_cases hj : j < ts.length
  · rw [List.getElem?_take_of_lt hj, Array.getElem?_toList]
    simp [putCells, hj, show j < cur.size by omega]
  · rw [List.getElem?_take_eq_none (by omega), List.getElem?_eq_none (by omega)]
theorem ownsRow_sortedV {w : World} {base g cap n m : Nat} {e : TypeId} {os : Array Obj} {cur : Array Value} {ts : List Value} (hl : ts.length = m * 2) (hbase : base ≤ g) (hb : w.heap[g]? = some (.cells cur e (0, 0)))
    (h1 : m ≤ cap) (h2 : cap ≤ maxLen) (h3 : cur.size = cap * 2) :
    (grow (putRow id (Sort.ahead w n) g 0 ts.toArray) os).ownsRow base e 2 (.slice (some ⟨g, 0, none⟩) m cap) m ts :=
  ⟨hl, .inr ⟨g, cap, _, rfl, hbase, heap_sortedV _ hb, h1, h2, by simp [putCells, h3], by rw [← hl]; exact take_putCellsV cur ts (by omega)⟩⟩
/-- a row of the call's own, as the sort wants it -/
theorem row_of_own {w : World} {base n c : Nat} {e : TypeId} {A : Option Addr} {zs : List (Int × Int)} {m : Nat} (hl : zs.length = m + 1) (h : w.ownsRow base e 2 (.slice A n c) n (pairs zs)) :
    ∃ g, A = some ⟨g, 0, none⟩ ∧ base ≤ g ∧ n = (idxs m).size ∧ RowK (encI (itF zs m)) 2 w g 0 (idxs m) ∧ ∀ (d : Array (Fin (m + 1))) W, d.size = (idxs m).size → SWK (encI (itF zs m)) 2 w g 0 d W → W.ownsRow base e 2 (.slice A n c) n (pairs (d.toList.map (itF zs m))) ∧ w.grownBy W (some g) := by
  have hn : n = m + 1 := by have := h.1; rw [pairs_length] at this; omega
  rcases h.2 with ⟨hv, h0⟩ | ⟨g, cap, cur, hv, hb, hg, h1, h2, h3, h4⟩
  · omega
  · injection hv with e1 e2 e3
    subst e1 e3
    have hH : HoldsK (encI (itF zs m)) 2 w g 0 (idxs m) := by
      unfold HoldsK
      rw [flatI, idxs_items hl]
      exact holds_of_blockV hg (by rw [show (pairs zs).length = n * 2 from h.1]; exact h4)
    refine ⟨g, rfl, hb, by rw [idxs_size]; exact hn, rowI hH (Array.getElem?_eq_some_iff.1 hg).1, fun d W hd hW => ?_⟩
    obtain ⟨k, os, rfl⟩ := hW
    unfold sortWorldK putRowK
    rw [flatI]
    exact ⟨ownsRow_sortedV (by rw [pairs_length, List.length_map, Array.length_toList, hd, idxs_size]; omega) hb hg h1 h2 h3, grownBy_sortedV _⟩
end Go.Proofs.Ytiocgmeonfanmaa
