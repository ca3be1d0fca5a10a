/-
  sort.Slice of a slice of entries of the call's own: plain part and the closures.
-/
import Derived.Sort.OwnSortedInts
import Derived.Shelf.SlSortFuncK.WholeK
import Derived.Shelf.GgSortFunc.Tiny
import Derived.BigQuiet
import Derived.Test.YtcgcfenenkdhlaaShelf
import Derived.Test.YtcgcfenenkdhlaaTabP
import Derived.Test.YtcgcfenenkdhlaaAppR
namespace Go.Proofs.Ytcgcfenenkdhlaa
open Go.RowKit Go.Sort Go.Shelf
set_option linter.unusedVariables false
set_option linter.unusedSimpArgs false

def encE (p : Int × Int) : List Value := [.int .i64 p.1, .int .i64 p.2]
theorem flatE (d : Array (Int × Int)) : flatK encE 2 d = (pairs d.toList).toArray := by
  have hl : (pairs d.toList).length = d.size * 2 := by rw [pairs_length]; simp
  refine ext_get! (by simp [hl]) fun t ht => ?_
  rw [size_flatK] at ht
  rw [get_flatK _ _ _ _ ht]
  have hk : d.toList[t / 2]? = some d[t / 2]! := by
    have h2 : t / 2 < d.size := by omega
    simp [h2]
  obtain ⟨p1, p2⟩ := pairs_at hk
  rcases Nat.mod_two_eq_zero_or_one t with hm | hm
  · rw [show t / 2 * 2 = t by omega] at p1
    rw [hm]
    simp [encE, p1]
  · rw [show t / 2 * 2 + 1 = t by omega] at p2
    rw [hm]
    simp [encE, p2]
theorem holds_of_blockV {w : World} {g : Nat} {cur : Array Value} {e : TypeId} {F : List Value} (hb : w.heap[g]? = some (.cells cur e (0, 0))) (ht : cur.toList.take F.length = F) : Holds id w g 0 F.toArray := by
  intro j hj
  have hj' : j < F.length := by simpa using hj
  refine ⟨?_, by simp [World.frozen?, hb]⟩
  have h1 : (cur.toList.take F.length)[j]? = F[j]? := by rw [ht]
  rw [List.getElem?_take_of_lt hj'] at h1
  simp only [World.cell?, hb, Nat.zero_add]
  simp only [Option.isSome_none, Bool.false_eq_true, if_false]
  rw [← Array.getElem?_toList, h1]
  simp [hj']
theorem heap_sortedV {w : World} {g n : Nat} {os : Array Obj} {cur : Array Value} {e : TypeId} {fr : Nat × Nat} (d : Array Value) (hb : w.heap[g]? = some (.cells cur e fr)) :
    (grow (putRow id (Sort.ahead w n) g 0 d) os).heap[g]? = some (.cells (putCells id 0 d cur) e fr) := by
  have hg : g < w.heap.size := (Array.getElem?_eq_some_iff.1 hb).1
  rw [heap_grow_old _ _ (by simpa using hg)]
  simp [putRow, mapBlock, Sort.ahead, Array.getElem?_modify, hb, onCells]
theorem grownBy_sortedV {w : World} {g n : Nat} {os : Array Obj} (d : Array Value) : w.grownBy (grow (putRow id (Sort.ahead w n) g 0 d) os) (some g) := by
  refine ⟨rfl, rfl, rfl, by simp, fun k hk hne => ?_⟩
  rw [heap_grow_old _ _ (by simpa using hk)]
  have : g ≠ k := fun e => hne (by rw [e])
  simp [putRow, mapBlock, Sort.ahead, Array.getElem?_modify, this]
theorem take_putCellsV (cur : Array Value) (ts : List Value) (h : ts.length ≤ cur.size) : (putCells id 0 ts.toArray cur).toList.take ts.length = ts := by
  apply List.ext_getElem?
  intro j
  by_cases hj : j < ts.length
  · rw [List.getElem?_take_of_lt hj, Array.getElem?_toList]
    simp [putCells, hj, show j < cur.size by omega]
  · rw [List.getElem?_take_eq_none (by omega), List.getElem?_eq_none (by omega)]
theorem ownsRow_sortedV {w : World} {base g cap n m : Nat} {e : TypeId} {os : Array Obj} {cur : Array Value} {ts : List Value} (hl : ts.length = m * 2) (hbase : base ≤ g) (hb : w.heap[g]? = some (.cells cur e (0, 0)))
    (h1 : m ≤ cap) (h2 : cap ≤ maxLen) (h3 : cur.size = cap * 2) :
    (grow (putRow id (Sort.ahead w n) g 0 ts.toArray) os).ownsRow base e 2 (.slice (some ⟨g, 0, none⟩) m cap) m ts :=
  ⟨hl, .inr ⟨g, cap, _, rfl, hbase, heap_sortedV _ hb, h1, h2, by simp [putCells, h3], by rw [← hl]; exact take_putCellsV cur ts (by omega)⟩⟩

def lt1 (a b : Int × Int) : Bool := decide (a.1 < b.1)
def lt2 (a b : Int × Int) : Bool := if a.1 < b.1 then true else if a.1 = b.1 then decide (a.2 < b.2) else false
theorem swo_lt1 : SWO lt1 where
  irrefl := fun x => by simp [lt1]
  trans := fun x y z h1 h2 => by simp [lt1] at *; omega
  ntrans := fun x y z h1 h2 => by simp [lt1] at *; omega
theorem swo_lt2 : SWO lt2 where
  irrefl := fun x => by simp [lt2]
  trans := fun x y z h1 h2 => by
    unfold lt2 at *; (repeat' split at h1) <;> (repeat' split at h2) <;> (repeat' split) <;> simp at * <;> omega
  ntrans := fun x y z h1 h2 => by
    unfold lt2 at *; (repeat' split at h1) <;> (repeat' split at h2) <;> (repeat' split) <;> simp at * <;> omega
theorem sorted_rise1 {d : Array (Int × Int)} (h : SortedIn lt1 0 d.size d) : d.toList.Pairwise (fun a b => a.1 ≤ b.1) := by
  rw [List.pairwise_iff_getElem]
  intro i j hi hj hij
  have := h i j (Nat.zero_le _) hij (by simpa using hj)
  simp at hi hj
  simp [lt1, hi, hj] at this
  simpa using this
theorem sorted_rise2 {d : Array (Int × Int)} (h : SortedIn lt2 0 d.size d) : d.toList.Pairwise (fun a b => a.1 ≤ b.1) := by
  rw [List.pairwise_iff_getElem]
  intro i j hi hj hij
  have := h i j (Nat.zero_le _) hij (by simpa using hj)
  simp at hi hj
  simp [lt2, hi, hj] at this
  simp
  omega
theorem perm_of_permIn {d d' : Array (Int × Int)} (h : PermIn 0 d.size d d') : d'.toList.Perm d.toList := by
  have h2 := h.2.2
  have e : d'.size = d.size := h.1
  simp only [Array.toList_extract, List.extract_eq_take_drop, List.drop_zero, Nat.sub_zero] at h2
  rwa [List.take_of_length_le (by simp [e]), List.take_of_length_le (by simp)] at h2

set_option maxHeartbeats 2000000 in
theorem less1 (blk off c Bs size : Nat) (W : World) (G : Nat → Int × Int) (hs : W.cell? ⟨Bs, 0, none⟩ = some (.slice (some ⟨blk, off, none⟩) size c))
    (hc : ∀ t, t < size → W.cell? ⟨blk, off + t * 2, none⟩ = some (.int .i64 (G t).1) ∧ W.cell? ⟨blk, off + t * 2 + 1, none⟩ = some (.int .i64 (G t).2)) (i j : Nat) (hi : i < size) (hj : j < size) (_hsz : size < 4611686018427387904) :
    Calls Try.prog 63 #[.int .i64 i, .int .i64 j, .pointer (some ⟨Bs, 0, none⟩)] W fun e w' => e = .returned (.bool (lt1 (G i) (G j))) ∧ ∃ q, w' = W.drewN q := by
  have ci := (hc i hi).1
  have cj := (hc j hj).1
  go_enter Try.func63, Try.ntmps63
  go_wp2
  go_quiet (fail)
  go_wp2
  go_ret
  exact ⟨rfl, nq, rfl⟩
end Go.Proofs.Ytcgcfenenkdhlaa
