/-
  slices.Sort and slices.Sorted of floats, at a row of the call's own.
-/
import Derived.Sort.OwnSortedInts
import Derived.Sort.AssemblyPlain
import Derived.Test.YthefajbahbmohaaF14
import Derived.Test.YthefajbahbmohaaFP
import Derived.Test.YthefajbahbmohaaAppFl
import Derived.Test.YthefajbahbmohaaAppR
namespace Go.Proofs.Ythefajbahbmohaa
open Go.RowKit Go.Shelf Go.Sort
set_option linter.unusedVariables false
set_option linter.unusedSimpArgs false
attribute [local go_sem] Oper.semAt_some

theorem holds_of_blockFl {w : World} {g : Nat} {cur : Array Value} {e : TypeId} {ss : List Nat} (hb : w.heap[g]? = some (.cells cur e (0, 0))) (ht : cur.toList.take ss.length = ss.map (Value.float .f64)) : Holds (Value.float .f64) w g 0 ss.toArray := by
  intro j hj
  have hj' : j < ss.length := by simpa using hj
  refine ⟨?_, by simp [World.frozen?, hb]⟩
  have h1 : (cur.toList.take ss.length)[j]? = (ss.map (Value.float .f64))[j]? := by rw [ht]
  rw [List.getElem?_take_of_lt hj'] at h1
  simp only [World.cell?, hb, Nat.zero_add]
  simp only [Option.isSome_none, Bool.false_eq_true, if_false]
  rw [← Array.getElem?_toList, h1]
  simp [hj']

theorem heap_sortedFl {w : World} {g n : Nat} {os : Array Obj} {cur : Array Value} {e : TypeId} {fr : Nat × Nat} (d : Array Nat) (hb : w.heap[g]? = some (.cells cur e fr)) :
    (grow (putRow (Value.float .f64) (Sort.ahead w n) g 0 d) os).heap[g]? = some (.cells (putCells (Value.float .f64) 0 d cur) e fr) := by
  have hg : g < w.heap.size := (Array.getElem?_eq_some_iff.1 hb).1
  rw [heap_grow_old _ _ (by simpa using hg)]
  simp [putRow, mapBlock, Sort.ahead, Array.getElem?_modify, hb, onCells]

theorem grownBy_sortedFl {w : World} {g n : Nat} {os : Array Obj} (d : Array Nat) : w.grownBy (grow (putRow (Value.float .f64) (Sort.ahead w n) g 0 d) os) (some g) := by
  refine ⟨rfl, rfl, rfl, by simp, fun k hk hne => ?_⟩
  rw [heap_grow_old _ _ (by simpa using hk)]
  have : g ≠ k := fun e => hne (by rw [e])
  simp [putRow, mapBlock, Sort.ahead, Array.getElem?_modify, this]

theorem take_putCellsFl (cur : Array Value) (ts : List Nat) (h : ts.length ≤ cur.size) : (putCells (Value.float .f64) 0 ts.toArray cur).toList.take ts.length = ts.map (Value.float .f64) := by
  apply List.ext_getElem?
  intro j
  by_cases hj : j < ts.length
  · rw [List.getElem?_take_of_lt hj, Array.getElem?_toList]
    simp [putCells, hj, show j < cur.size by omega]
  · rw [List.getElem?_take_eq_none (by omega), List.getElem?_eq_none (by simp; omega)]

/-- BEHIND THE SORT the same slice owns the sorted list. -/
theorem ownsRow_sortedFl {w : World} {base g cap n : Nat} {e : TypeId} {os : Array Obj} {cur : Array Value} {ss ts : List Nat} (hl : ts.length = ss.length) (hbase : base ≤ g) (hb : w.heap[g]? = some (.cells cur e (0, 0)))
    (h1 : ss.length ≤ cap) (h2 : cap ≤ maxLen) (h3 : cur.size = cap * 1) :
    (grow (putRow (Value.float .f64) (Sort.ahead w n) g 0 ts.toArray) os).ownsRow base e 1 (.slice (some ⟨g, 0, none⟩) ss.length cap) ss.length (ts.map (Value.float .f64)) :=
  ⟨by simp [hl], .inr ⟨g, cap, _, rfl, hbase, heap_sortedFl _ hb, h1, h2, by simp [putCells, h3], by rw [Nat.mul_one, ← hl]; exact take_putCellsFl cur ts (by omega)⟩⟩

theorem ltF_D (x y : Nat) : ltF x y = ltD (FloatKind.f64.format.read x) (FloatKind.f64.format.read y) := rfl
theorem ltF_swo : SWO ltF where
  irrefl x := by rw [ltF_D]; exact ltD_swo.irrefl _
  trans x y z h k := by rw [ltF_D] at *; exact ltD_swo.trans _ _ _ h k
  ntrans x y z h k := by rw [ltF_D] at *; exact ltD_swo.ntrans _ _ _ h k
/-- the floats in order -/
def srtF (zs : List Nat) : List Nat := (Sort.sort ltF zs.toArray).toList
theorem srtF_arr (zs : List Nat) : (srtF zs).toArray = Sort.sort ltF zs.toArray := by simp [srtF]
theorem srtF_length (zs : List Nat) : (srtF zs).length = zs.length := by
  have h := (sort_sorts ltF ltF_swo zs.toArray).1.1
  simpa [srtF] using h
theorem srtF_perm (zs : List Nat) : (srtF zs).Perm zs := by
  have h := (sort_sorts ltF ltF_swo zs.toArray).1
  have h1 := h.1
  have h3 := h.2.2
  rw [show zs.toArray.size = (Sort.sort ltF zs.toArray).size from h1.symm] at h3
  simp only [Array.extract_size] at h3
  rw [h1] at h3
  simpa [srtF] using h3
theorem srtF_rises {zs : List Nat} {i j x y : Nat} (hij : i < j) (hx : (srtF zs)[i]? = some x) (hy : (srtF zs)[j]? = some y) : ltF y x = false := by
  have h := (sort_sorts ltF ltF_swo zs.toArray).2
  have hj := (List.getElem?_eq_some_iff.1 hy).1
  rw [srtF_length] at hj
  have := h i j (Nat.zero_le _) hij (by simpa using hj)
  have e1 : (Sort.sort ltF zs.toArray)[i]! = x := by rw [getElem!_def, show (Sort.sort ltF zs.toArray)[i]? = some x by simpa [srtF] using hx]
  have e2 : (Sort.sort ltF zs.toArray)[j]! = y := by rw [getElem!_def, show (Sort.sort ltF zs.toArray)[j]? = some y by simpa [srtF] using hy]
  rwa [e1, e2] at this

theorem sortOwnFl (base : Nat) (A : Option Addr) (n c : Nat) (zs : List Nat) (w : World) (h : w.ownsRow base 53 1 (.slice A n c) n (flts zs)) (hn : n < 4611686018427387904) :
    Calls Try.prog 45 #[.slice A n c] w fun e w' => e = .returned (.tuple #[]) ∧ w'.ownsRow base 53 1 (.slice A n c) n (flts (srtF zs)) ∧ w.grownBy w' (Value.slice A n c).ownBlock := by
  have hzl : zs.length = n := by have := h.1; simpa using this
  subst hzl
  rcases h.2 with ⟨hv, h0⟩ | ⟨g, cap, cur, hv, hbase, hheap, hnc, hcm, hcs, htk⟩
  · have HNIL : Calls Try.prog 45 #[.slice A 0 c] w fun e w' => e = .returned (.tuple #[]) ∧ w' = w := by
      injection hv with h1 _ h3
      subst h1
      exact sortF0 c w
    have hz : zs = [] := List.eq_nil_of_length_eq_zero h0
    subst hz
    refine HNIL.mono ?_
    rintro e w' ⟨rfl, rfl⟩
    rw [show srtF [] = [] from List.eq_nil_of_length_eq_zero (by rw [srtF_length]; rfl)]
    exact ⟨rfl, h, ⟨rfl, rfl, rfl, Nat.le_refl _, fun _ _ _ => rfl⟩⟩
  · injection hv with h1 _ h3
    subst h1
    subst h3
    rw [Nat.mul_one] at htk
    refine (sortF g 0 c zs.toArray w (holds_of_blockFl hheap htk) (Array.getElem?_eq_some_iff.1 hheap).1 (by simpa using hn)).mono ?_
    rintro e w' ⟨rfl, k, os, rfl⟩
    rw [← srtF_arr]
    exact ⟨rfl, ownsRow_sortedFl (srtF_length zs) hbase hheap hnc hcm hcs, grownBy_sortedFl _⟩

set_option maxHeartbeats 1000000 in
theorem sortedFl (gf : Nat) (lb : Array Value) (n₀ : Nat) (zs : List Nat) (w : World) (hz : zs.length < 4611686018427387904) (hn₀ : n₀ ≤ w.heap.size)
    (hco : Calls Try.prog 44 #[.func (.func gf) #[] lb] w fun e W' => ∃ A' c', e = .returned (.slice A' zs.length c') ∧ W'.ownsRow n₀ 53 1 (.slice A' zs.length c') zs.length (flts zs) ∧
      (A'.isNone = decide (zs = [])) ∧ Below n₀ w W') :
    Calls Try.prog 33 #[.func (.func gf) #[] lb] w fun e W' => ∃ A' c', e = .returned (.slice A' zs.length c') ∧ W'.ownsRow n₀ 53 1 (.slice A' zs.length c') zs.length (flts (srtF zs)) ∧
      (A'.isNone = decide (zs = [])) ∧ Below n₀ w W' := by
  have HC := hide hco
  clear hco
  go_enter Try.func33, Try.ntmps33
  go_wp2_with fail
  refine HC.out.mono ?_
  rintro e w1 ⟨A', c', rfl, ho, hnl, hbl⟩
  have HO := hide ho
  have HN := hide hnl
  clear ho hnl
  go_wp2_with fail
  refine (sortOwnFl n₀ A' zs.length c' zs w1 HO.out hz).mono ?_
  rintro e w2 ⟨rfl, ho2, hg2⟩
  have HO2 := hide ho2
  have hb2 : Below n₀ w w2 := below_grown_own hbl (Nat.le_trans hn₀ hbl.size) (Nat.le_refl _) HO.out hg2
  clear ho2
  go_wp2
  go_ret
  exact ⟨A', c', rfl, HO2.out, HN.out, hb2⟩

end Go.Proofs.Ythefajbahbmohaa
