/-
  The pattern-defeating quicksort at ANY order, in plain terms: whatever the comparison says, its ranges stay in range and the whole is a permutation.
-/
import Derived.Test.YthefajbahbmohaaStP
import Derived.Sort.Walk13a
import Derived.Sort.AssemblyPlain
namespace Go.Proofs.Ythefajbahbmohaa
open Go.Sort
set_option linter.unusedVariables false
set_option linter.unusedSimpArgs false
variable {α : Type} [Inhabited α]

def PA (d d' : Array α) : Prop := PermIn 0 d.size d d'
theorem PA.refl (d : Array α) : PA d d := permIn_refl _ _ _
theorem PA.size {d d' : Array α} (h : PA d d') : d'.size = d.size := h.1
theorem PA.trans {d d' d'' : Array α} (h : PA d d') (k : PA d' d'') : PA d d'' := permIn_trans _ _ _ _ _ h (by have k' : PermIn 0 d'.size d' d'' := k; rw [h.1] at k'; exact k')
theorem PA.of {a b : Nat} {d d' : Array α} (hb : b ≤ d.size) (h : PermIn a b d d') : PA d d' := permIn_mono _ _ _ _ _ _ (Nat.zero_le _) hb (Nat.le_refl _) h
theorem PA.swp (d : Array α) {i j : Nat} (hi : i < d.size) (hj : j < d.size) : PA d (swp d i j) := swp_permIn _ _ _ _ _ (Nat.zero_le _) hi (Nat.zero_le _) hj (Nat.le_refl _)

theorem sift_pa (lt : α → α → Bool) (hi F : Nat) : ∀ (n root : Nat) (d : Array α), hi - root ≤ n → F + hi ≤ d.size → PA d (siftDown lt hi F root d) := by
  intro n
  induction n with
  | zero =>
    intro root d hn hs
    rw [siftDown, dif_pos (by omega)]
    exact PA.refl d
  | succ n ih =>
    intro root d hn hs
    rw [siftDown]
    split
    · exact PA.refl d
    · next h =>
      split
      · split
        · exact PA.refl d
        · split
          · next h2 => exact (PA.swp d (by omega) (by omega)).trans (ih _ _ (by omega) (by rw [size_swp]; exact hs))
          · exact PA.refl d
      · split
        · exact PA.refl d
        · exact (PA.swp d (by omega) (by omega)).trans (ih _ _ (by omega) (by rw [size_swp]; exact hs))

theorem build_pa (lt : α → α → Bool) (hi F : Nat) : ∀ (k : Nat) (d : Array α), F + hi ≤ d.size → PA d (heapBuild lt hi F k d)
  | 0, d, _ => PA.refl d
  | k + 1, d, hs => by
    have h := sift_pa lt hi F _ k d (Nat.le_refl _) hs
    exact h.trans (build_pa lt hi F k _ (by rw [h.size]; exact hs))

theorem pop_pa (lt : α → α → Bool) (F : Nat) : ∀ (k : Nat) (d : Array α), F + k ≤ d.size → PA d (heapPop lt F k d)
  | 0, d, _ => PA.refl d
  | k + 1, d, hs => by
    have h1 := PA.swp d (i := F) (j := F + k) (by omega) (by omega)
    have h2 := sift_pa lt k F _ 0 (Go.Sort.swp d F (F + k)) (Nat.le_refl _) (by rw [size_swp]; omega)
    exact h1.trans (h2.trans (pop_pa lt F k _ (by rw [h2.size, size_swp]; omega)))

theorem heap_pa (lt : α → α → Bool) (d : Array α) (a b : Nat) (hab : a ≤ b) (hb : b ≤ d.size) : PA d (heapSort lt d a b) := by
  have h := build_pa lt (b - a) a ((b - a - 1) / 2 + 1) d (by omega)
  exact h.trans (pop_pa lt a (b - a) _ (by rw [h.size]; omega))

theorem partition_any (lt : α → α → Bool) (d : Array α) (a b pivot : Nat) (h1 : a ≤ pivot) (h2 : pivot < b) (hb : b ≤ d.size) :
    a ≤ (partition lt d a b pivot).1 ∧ (partition lt d a b pivot).1 < b ∧ PA d (partition lt d a b pivot).2.2 := by
  obtain ⟨r1, r2, r3, _⟩ := partLoop_spec (lt := lt) a b _ (a + 1) (b - 1) (Go.Sort.swp d a pivot) (Nat.le_refl _) (by omega) (by omega) (by omega) (by rw [size_swp]; exact hb) (fun t h3 h4 => by omega) (fun t h3 h4 => by omega)
  have p1 := PA.swp d (i := a) (j := pivot) (by omega) (by omega)
  have p2 := PA.of (by rw [size_swp]; exact hb) r3
  rw [partition_fst, partition_arr]
  refine ⟨r1, r2, (p1.trans p2).trans (PA.swp _ ?_ ?_)⟩
  · rw [(p1.trans p2).size]; omega
  · rw [(p1.trans p2).size]; omega

theorem partEq_any (lt : α → α → Bool) (d : Array α) (a b pivot : Nat) (h1 : a ≤ pivot) (h2 : pivot < b) (hb : b ≤ d.size) :
    a < (partitionEqual lt d a b pivot).1 ∧ (partitionEqual lt d a b pivot).1 ≤ b ∧ PA d (partitionEqual lt d a b pivot).2 := by
  obtain ⟨r1, r2, r3, _⟩ := partEqLoop_spec (lt := lt) a b _ (a + 1) (b - 1) (Go.Sort.swp d a pivot) (Nat.le_refl _) (by omega) (by omega) (by omega) (by rw [size_swp]; exact hb) (fun t h3 h4 => by omega) (fun t h3 h4 => by omega)
  have p1 := PA.swp d (i := a) (j := pivot) (by omega) (by omega)
  have p2 := PA.of (by rw [size_swp]; exact hb) r3
  exact ⟨r1, r2, p1.trans p2⟩

theorem scanS_le (lt : α → α → Bool) (d : Array α) (b : Nat) : ∀ (n i : Nat), b - i ≤ n → i ≤ b → i ≤ scanSorted lt d b i ∧ scanSorted lt d b i ≤ b := by
  intro n
  induction n with
  | zero =>
    intro i hn hi
    rw [scanSorted, if_neg (by simp; omega)]
    exact ⟨Nat.le_refl _, hi⟩
  | succ n ih =>
    intro i hn hi
    rw [scanSorted]
    split
    · next h =>
      simp only [Bool.and_eq_true, decide_eq_true_eq] at h
      have := ih (i + 1) (by omega) (by omega)
      exact ⟨by omega, this.2⟩
    · exact ⟨Nat.le_refl _, hi⟩

theorem shiftDown_pa (lt : α → α → Bool) : ∀ (j : Nat) (d : Array α), j < d.size → PA d (shiftDown lt j d)
  | 0, d, _ => PA.refl d
  | j + 1, d, h => by
    rw [shiftDown]
    split
    · exact PA.refl d
    · exact (PA.swp d h (by omega)).trans (shiftDown_pa lt j _ (by rw [size_swp]; omega))

theorem shiftUp_pa (lt : α → α → Bool) (b : Nat) : ∀ (n j : Nat) (d : Array α), b - j ≤ n → b ≤ d.size → PA d (shiftUp lt b j d) := by
  intro n
  induction n with
  | zero =>
    intro j d hn hb
    rw [shiftUp, if_neg (by omega)]
    exact PA.refl d
  | succ n ih =>
    intro j d hn hb
    rw [shiftUp]
    split
    · split
      · exact PA.refl d
      · exact (PA.swp d (by omega) (by omega)).trans (ih _ _ (by omega) (by rw [size_swp]; exact hb))
    · exact PA.refl d

theorem partialIns_pa (lt : α → α → Bool) (a b : Nat) : ∀ (s i : Nat) (d : Array α), a < i → i ≤ b → b ≤ d.size → PA d (partialIns lt a b s i d).1
  | 0, i, d, _, _, _ => PA.refl d
  | s + 1, i, d, ha, hi, hb => by
    rw [partialIns]
    obtain ⟨g1, g2⟩ := scanS_le lt d b _ i (Nat.le_refl _) hi
    generalize scanSorted lt d b i = k at g1 g2 ⊢
    simp only []
    split
    · exact PA.refl d
    · split
      · exact PA.refl d
      · have p1 := PA.swp d (i := k) (j := k - 1) (by omega) (by omega)
        have p2 : PA (Go.Sort.swp d k (k - 1)) (if k - a ≥ 2 then shiftDown lt (k - 1) (Go.Sort.swp d k (k - 1)) else Go.Sort.swp d k (k - 1)) := by
          split
          · exact shiftDown_pa lt _ _ (by rw [size_swp]; omega)
          · exact PA.refl _
        generalize (if k - a ≥ 2 then shiftDown lt (k - 1) (Go.Sort.swp d k (k - 1)) else Go.Sort.swp d k (k - 1)) = d2 at p2 ⊢
        have q2 := p1.trans p2
        have p3 : PA d2 (if b - k ≥ 2 then shiftUp lt b (k + 1) d2 else d2) := by
          split
          · exact shiftUp_pa lt b _ _ _ (Nat.le_refl _) (by rw [q2.size]; exact hb)
          · exact PA.refl _
        generalize (if b - k ≥ 2 then shiftUp lt b (k + 1) d2 else d2) = d3 at p3 ⊢
        have q3 := q2.trans p3
        exact q3.trans (partialIns_pa lt a b s k d3 (by omega) g2 (by rw [q3.size]; exact hb))

theorem partial_pa (lt : α → α → Bool) (d : Array α) (a b : Nat) (hab : a < b) (hb : b ≤ d.size) : PA d (partialInsertionSort lt d a b).1 := partialIns_pa lt a b 5 (a + 1) d (by omega) hab hb

theorem rd_any (lt : α → α → Bool) {d : Array α} {a b limit : Nat} {wb wp : Bool} (hab : a < b) (hb : b ≤ d.size) :
    (rd lt d a b limit wb wp).d1.size = d.size ∧ (a ≤ (rd lt d a b limit wb wp).c.1 ∧ (rd lt d a b limit wb wp).c.1 < b) ∧
    (rd lt d a b limit wb wp).d2.size = d.size ∧ (a ≤ (rd lt d a b limit wb wp).pivot ∧ (rd lt d a b limit wb wp).pivot < b) ∧
    (rd lt d a b limit wb wp).pi.1.size = d.size ∧ PA d (rd lt d a b limit wb wp).pi.1 := by
  have p1 : PermIn a b d (rd lt d a b limit wb wp).d1 := step_break d (Nat.le_of_lt hab) hb ((!wb) = true)
  have s1 := p1.1
  have c1 : a ≤ (rd lt d a b limit wb wp).c.1 ∧ (rd lt d a b limit wb wp).c.1 < b := choosePivot_holds lt (rd lt d a b limit wb wp).d1 a b hab
  have p2 : PermIn a b (rd lt d a b limit wb wp).d1 (rd lt d a b limit wb wp).d2 := step_reverse reverseRange_holds (rd lt d a b limit wb wp).d1 (Nat.le_of_lt hab) (by rw [s1]; exact hb) ((rd lt d a b limit wb wp).c.2 = .decreasing)
  have s2 := p2.1.trans s1
  have pv : a ≤ (rd lt d a b limit wb wp).pivot ∧ (rd lt d a b limit wb wp).pivot < b := pivot_range c1.1 c1.2 ((rd lt d a b limit wb wp).c.2 = .decreasing)
  have p3 : PA (rd lt d a b limit wb wp).d2 (rd lt d a b limit wb wp).pi.1 := by
    cases h : (wb && wp && decide ((rd lt d a b limit wb wp).hint = .increasing))
    · rw [rd_pi_no h]; exact PA.refl _
    · rw [rd_pi_yes h]; exact partial_pa lt _ _ _ hab (by rw [s2]; exact hb)
  exact ⟨s1, c1, s2, pv, p3.1.trans s2, ((PA.of hb p1).trans (PA.of (by rw [s1]; exact hb) p2)).trans p3⟩

theorem pdq_pa (lt : α → α → Bool) : ∀ (N a b limit : Nat) (wb wp : Bool) (d : Array α), b - a < N → a ≤ b → b ≤ d.size → PA d (pdq lt d a b limit wb wp) := by
  intro N
  induction N with
  | zero => intro _ _ _ _ _ _ h; exact absurd h (Nat.not_lt_zero _)
  | succ N ih =>
    intro a b limit wb wp d hN hab hb
    by_cases h12 : b - a ≤ 12
    · rw [pdq_small h12]; exact PA.of hb (insertion_perm lt d a b hb)
    · by_cases h0 : limit = 0
      · rw [pdq_heap h12 h0]; exact heap_pa lt d a b hab hb
      · obtain ⟨s1, c1, s2, pv, s3, P⟩ := rd_any lt (d := d) (limit := limit) (wb := wb) (wp := wp) (show a < b by omega) hb
        cases h1 : (rd lt d a b limit wb wp).pi.2 with
        | true => rw [pdq_done h12 h0 h1]; exact P
        | false =>
          cases h2 : (decide (a > 0) && !lt (rd lt d a b limit wb wp).pi.1[a - 1]! (rd lt d a b limit wb wp).pi.1[(rd lt d a b limit wb wp).pivot]!) with
          | true =>
            obtain ⟨r1, r2, r3⟩ := partEq_any lt (rd lt d a b limit wb wp).pi.1 a b (rd lt d a b limit wb wp).pivot pv.1 pv.2 (by rw [s3]; exact hb)
            rw [pdq_eq h12 h0 h1 h2 ⟨r1, r2⟩]
            exact (P.trans r3).trans (ih _ _ _ _ _ _ (by omega) r2 (by rw [(P.trans r3).size]; exact hb))
          | false =>
            obtain ⟨r1, r2, r3⟩ := partition_any lt (rd lt d a b limit wb wp).pi.1 a b (rd lt d a b limit wb wp).pivot pv.1 pv.2 (by rw [s3]; exact hb)
            have q := P.trans r3
            by_cases h4 : (partition lt (rd lt d a b limit wb wp).pi.1 a b (rd lt d a b limit wb wp).pivot).1 - a < b - (partition lt (rd lt d a b limit wb wp).pi.1 a b (rd lt d a b limit wb wp).pivot).1
            · rw [pdq_left h12 h0 h1 h2 ⟨r1, r2⟩ h4]
              have q2 := q.trans (ih a _ (rd lt d a b limit wb wp).lim true true (partition lt (rd lt d a b limit wb wp).pi.1 a b (rd lt d a b limit wb wp).pivot).2.2 (by omega) r1 (by rw [q.size]; omega))
              exact q2.trans (ih _ _ _ _ _ _ (by omega) (by omega) (by rw [q2.size]; exact hb))
            · rw [pdq_right h12 h0 h1 h2 ⟨r1, r2⟩ h4]
              have q2 := q.trans (ih ((partition lt (rd lt d a b limit wb wp).pi.1 a b (rd lt d a b limit wb wp).pivot).1 + 1) b (rd lt d a b limit wb wp).lim true true (partition lt (rd lt d a b limit wb wp).pi.1 a b (rd lt d a b limit wb wp).pivot).2.2 (by omega) (by omega) (by rw [q.size]; exact hb))
              exact q2.trans (ih _ _ _ _ _ _ (by omega) r1 (by rw [q2.size]; omega))
end Go.Proofs.Ythefajbahbmohaa
