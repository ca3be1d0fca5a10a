/-
  Plain lists: counting, permutations, the sorted list. No program in sight.
-/
import Derived.Test.YthefajbahbmohaaBase
namespace Go.Proofs.Ythefajbahbmohaa
set_option linter.unusedVariables false
set_option linter.unusedSimpArgs false

/-- what 'permuted' computes -/
def permB {α : Type} [BEq α] (a b : List α) : Bool := a.length == b.length && a.all fun x => a.count x == b.count x
theorem permB_of {α : Type} [BEq α] [LawfulBEq α] {a b : List α} (h : a.Perm b) : permB a b = true := by
  unfold permB
  rw [Bool.and_eq_true, beq_iff_eq, List.all_eq_true]
  exact ⟨h.length_eq, fun x _ => by rw [beq_iff_eq]; exact h.count_eq x⟩
theorem filter_perm {α : Type} [BEq α] [LawfulBEq α] {a b : List α} (h : ∀ x ∈ a, a.count x = b.count x) : (b.filter fun x => a.contains x).Perm a := by
  rw [List.perm_iff_count]
  intro x
  by_cases hx : x ∈ a
  · rw [List.count_filter (by simpa using hx)]
    exact (h x hx).symm
  · rw [List.count_eq_zero_of_not_mem hx, List.count_eq_zero_of_not_mem]
    intro hm
    rw [List.mem_filter] at hm
    exact hx (by simpa using hm.2)
theorem permB_iff {α : Type} [BEq α] [LawfulBEq α] {a b : List α} : permB a b = true ↔ a.Perm b := by
  refine ⟨fun h => ?_, permB_of⟩
  unfold permB at h
  rw [Bool.and_eq_true, beq_iff_eq, List.all_eq_true] at h
  have hp := filter_perm (a := a) (b := b) fun x hx => by simpa using h.2 x hx
  have hl : (b.filter fun x => a.contains x).length = b.length := by rw [hp.length_eq, h.1]
  rw [List.filter_eq_self.2 (List.length_filter_eq_length_iff.1 hl)] at hp
  exact hp.symm

/-- the sorted list -/
def srt (zs : List Int) : List Int := zs.mergeSort fun x y => decide (x ≤ y)
theorem srt_perm (zs : List Int) : (srt zs).Perm zs := List.mergeSort_perm _ _
theorem srt_length (zs : List Int) : (srt zs).length = zs.length := (srt_perm zs).length_eq
theorem srt_sorted (zs : List Int) : (srt zs).Pairwise (· ≤ ·) := by
  have h := List.pairwise_mergeSort (le := fun x y : Int => decide (x ≤ y)) (fun a b c h1 h2 => by simp at *; omega) (fun a b => by simp; omega) zs
  exact h.imp (by intro a b h; simpa using h)
/-- a sorted list is fixed by its elements -/
theorem sorted_unique {l r : List Int} (hp : l.Perm r) (hl : l.Pairwise (· ≤ ·)) (hr : r.Pairwise (· ≤ ·)) : l = r :=
  hp.eq_of_pairwise (fun a b _ _ h1 h2 => by omega) hl hr
theorem srt_eq {l r : List Int} (hp : l.Perm r) (hl : l.Pairwise (· ≤ ·)) : l = srt r := sorted_unique (hp.trans (srt_perm r).symm) hl (srt_sorted r)
theorem srt_congr {l r : List Int} (hp : l.Perm r) : srt l = srt r := srt_eq ((srt_perm l).trans hp) (srt_sorted l)
theorem srt_idem (l : List Int) : srt (srt l) = srt l := (srt_eq (List.Perm.refl _) (srt_sorted l)).symm
theorem cons_eraseIdx_perm {α : Type} : ∀ (L : List α) {i : Nat} (h : i < L.length), (L[i] :: L.eraseIdx i).Perm L
  | [], _, h => absurd h (Nat.not_lt_zero _)
  | _ :: _, 0, _ => List.Perm.refl _
  | x :: xs, i + 1, h => ((List.Perm.swap x (xs[i]'(Nat.lt_of_succ_lt_succ h)) (xs.eraseIdx i))).trans ((cons_eraseIdx_perm xs (Nat.lt_of_succ_lt_succ h)).cons x)
/-- one round of the selection: the least of what is left is the next of the sorted list -/
theorem select_step {zs L : List Int} {k at' : Nat} {x : Int} (hp : L.Perm ((srt zs).drop k)) (hx : L[at']? = some x) (hmin : ∀ y ∈ L, x ≤ y) :
    (srt zs)[k]? = some x ∧ (L.eraseIdx at').Perm ((srt zs).drop (k + 1)) := by
  have hs : ((srt zs).drop k).Pairwise (· ≤ ·) := (srt_sorted zs).sublist (List.drop_sublist _ _)
  have hxm : x ∈ L := List.mem_of_getElem? hx
  obtain ⟨hat, hxe⟩ := List.getElem?_eq_some_iff.1 hx
  have hk : k < (srt zs).length := by
    have h1 := hp.length_eq
    rw [List.length_drop] at h1
    omega
  rw [List.drop_eq_getElem_cons hk] at hs hp
  have h1 : (srt zs)[k] = x := by
    have h2 : (srt zs)[k] ∈ L := hp.mem_iff.2 List.mem_cons_self
    have h3 := hmin _ h2
    have h4 : x ∈ (srt zs)[k] :: (srt zs).drop (k + 1) := hp.mem_iff.1 hxm
    rcases List.mem_cons.1 h4 with h5 | h5
    · exact h5.symm
    · have h6 := (List.pairwise_cons.1 hs).1 x h5
      omega
  refine ⟨by rw [List.getElem?_eq_getElem hk, h1], ?_⟩
  have h7 : (x :: L.eraseIdx at').Perm L := by
    have h8 := cons_eraseIdx_perm L hat
    rw [hxe] at h8
    exact h8
  rw [h1] at hp
  exact (h7.trans hp).cons_inv
end Go.Proofs.Ythefajbahbmohaa
