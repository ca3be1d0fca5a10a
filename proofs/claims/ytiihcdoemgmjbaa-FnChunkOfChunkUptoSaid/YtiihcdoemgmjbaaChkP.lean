/-
  The slices of Chunk: plain facts.
-/
import Derived.Test.YtiihcdoemgmjbaaChkS
namespace Go.Proofs.Ytiihcdoemgmjbaa
set_option linter.unusedVariables false
set_option linter.unusedSimpArgs false

theorem firstN_neg (n : Nat) : firstN n (-1) = n := by unfold firstN; rw [if_neg (by omega)]
theorem chL_le (c len j : Nat) : chL c len j ≤ c := by unfold chL; split <;> omega
theorem chL_pos {c len j : Nat} (hc : 1 ≤ c) (h : j * c < len) : 1 ≤ chL c len j := by unfold chL; split <;> omega
theorem chL_full {c len j : Nat} (h : (j + 1) * c ≤ len) : chL c len j = c := by
  unfold chL; rw [Nat.succ_mul] at h; rw [if_neg (by omega)]
theorem chAt_length {c : Nat} {zs : List Int} {j : Nat} : (chAt c zs j).length = chL c zs.length j := by
  unfold chAt chL; simp; split <;> omega
theorem chAt_take (c : Nat) (zs : List Int) (j : Nat) : chAt c zs j = (zs.drop (j * c)).take c := by
  unfold chAt chL
  split
  · rw [List.take_of_length_le (by simp), List.take_of_length_le (by simp; omega)]
  · rfl
theorem chs_flatten (c : Nat) (zs : List Int) (K : Nat) : (chs c zs K).flatten = zs.take (K * c) := by
  induction K with
  | zero => simp [chs]
  | succ K ih => rw [chs_succ, List.flatten_append, ih, chAt_take, Nat.succ_mul, List.take_add]; simp
theorem nCh_mul {c len : Nat} (hc : 1 ≤ c) : len ≤ nCh c len * c := by
  unfold nCh
  have h1 := Nat.div_add_mod (len + c - 1) c
  have h2 := Nat.mod_lt (len + c - 1) (show 0 < c by omega)
  rw [Nat.mul_comm] at h1
  omega
theorem nCh_le {c len : Nat} (hc : 1 ≤ c) : nCh c len ≤ len := by
  rcases Nat.eq_zero_or_pos (nCh c len) with h | h
  · omega
  · obtain ⟨k, hk⟩ : ∃ k, nCh c len = k + 1 := ⟨nCh c len - 1, by omega⟩
    have h1 : k * c < len := nCh_lt hc (by omega)
    have h2 : k ≤ k * c := Nat.le_mul_of_pos_right k hc
    omega
theorem chs_all {c : Nat} {zs : List Int} (hc : 1 ≤ c) : (chs c zs (nCh c zs.length)).flatten = zs := by
  rw [chs_flatten, List.take_of_length_le (nCh_mul hc)]
theorem chs_mem_le {c K : Nat} {zs : List Int} : ∀ z ∈ chs c zs K, z.length ≤ zs.length := by
  intro z hz
  simp only [chs, List.mem_map] at hz
  obtain ⟨j, _, rfl⟩ := hz
  unfold chAt
  simp; omega
theorem nCh_div {c len : Nat} (hc : 1 ≤ c) : nCh c len = len / c + (if 0 < len % c then 1 else 0) := by
  have h1 := Nat.div_add_mod len c
  have h2 := Nat.mod_lt len (show 0 < c by omega)
  rw [Nat.mul_comm] at h1
  refine nCh_eq hc ?_ ?_
  · split
    · rw [Nat.succ_mul]; omega
    · rw [Nat.add_zero]; omega
  · split
    · right; rw [Nat.add_sub_cancel]; omega
    · rcases Nat.eq_zero_or_pos (len / c) with h | h
      · left; omega
      · right
        obtain ⟨k, hk⟩ : ∃ k, len / c = k + 1 := ⟨len / c - 1, by omega⟩
        rw [hk] at h1 ⊢
        rw [Nat.succ_mul] at h1
        simp only [Nat.add_zero, Nat.add_sub_cancel]; omega
theorem chs_get {c K k : Nat} {zs : List Int} {z : List Int} (h : (chs c zs K)[k]? = some z) : k < K ∧ z = chAt c zs k := by
  have hk := (List.getElem?_eq_some_iff.1 h).1
  rw [chs_length] at hk
  refine ⟨hk, ?_⟩
  simp only [chs, List.getElem?_map, List.getElem?_range hk, Option.map_some] at h
  exact (Option.some.inj h).symm
end Go.Proofs.Ytiihcdoemgmjbaa
