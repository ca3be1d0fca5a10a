/-
  What spec.Table makes: plain lists.
-/
import Derived.Test.YtcgcfenenkdhlaaMapP
namespace Go.Proofs.Ytcgcfenenkdhlaa
set_option linter.unusedVariables false
set_option linter.unusedSimpArgs false

/-- among the first i: (k, v), and no later one has this key -/
def Lst (zs : List (Int × Int)) (i : Nat) (k v : Int) : Prop := ∃ j, j < i ∧ zs[j]? = some (k, v) ∧ ∀ q ∈ zs.drop (j + 1), q.1 ≠ k
structure TI (zs : List (Int × Int)) (i : Nat) (t : List (Int × Int)) : Prop where
  rising : t.Pairwise (fun a b => a.1 < b.1)
  mem : ∀ k v, (k, v) ∈ t ↔ Lst zs i k v
theorem TI.zero (zs : List (Int × Int)) : TI zs 0 [] := ⟨List.Pairwise.nil, fun k v => ⟨fun h => absurd h (by simp), fun h => by obtain ⟨j, h, _⟩ := h; omega⟩⟩
theorem TI.skip {zs : List (Int × Int)} {i : Nat} {t : List (Int × Int)} {e : Int × Int} (h : TI zs i t) (he : zs[i]? = some e) (hn : ¬ ∀ q ∈ zs.drop (i + 1), q.1 ≠ e.1) : TI zs (i + 1) t := by
  refine ⟨h.rising, fun k v => (h.mem k v).trans ⟨fun ⟨j, hj, h1⟩ => ⟨j, by omega, h1⟩, fun ⟨j, hj, h1, h2⟩ => ?_⟩⟩
  rcases Nat.lt_or_ge j i with h3 | h3
  · exact ⟨j, h3, h1, h2⟩
  · obtain rfl : j = i := by omega
    rw [he] at h1
    cases h1
    exact absurd h2 hn
theorem TI.fresh {zs : List (Int × Int)} {i : Nat} {t : List (Int × Int)} {e : Int × Int} (h : TI zs i t) (he : zs[i]? = some e) : ∀ q ∈ t, q.1 ≠ e.1 := by
  intro q hq e1
  obtain ⟨j, hj, h1, h2⟩ := (h.mem q.1 q.2).1 hq
  refine h2 e ?_ e1.symm
  obtain ⟨hi, rfl⟩ := List.getElem?_eq_some_iff.1 he
  rw [List.mem_iff_getElem?]
  exact ⟨i - (j + 1), by rw [List.getElem?_drop, show j + 1 + (i - (j + 1)) = i by omega]; exact he⟩
theorem TI.put {zs : List (Int × Int)} {i j : Nat} {t : List (Int × Int)} {e : Int × Int} (h : TI zs i t) (he : zs[i]? = some e) (hl : ∀ q ∈ zs.drop (i + 1), q.1 ≠ e.1)
    (hb : ∀ q ∈ t.take j, q.1 < e.1) (ha : ∀ q, t[j]? = some q → ¬ q.1 < e.1) : TI zs (i + 1) (t.take j ++ [e] ++ t.drop j) := by
  have hr := h.rising
  have hsp : t = t.take j ++ t.drop j := (List.take_append_drop j t).symm
  rw [hsp, List.pairwise_append] at hr
  obtain ⟨r1, r2, r3⟩ := hr
  have hd : ∀ q ∈ t.drop j, e.1 < q.1 := by
    intro q hq
    have hne := h.fresh he q (List.mem_of_mem_drop hq)
    cases hdj : t.drop j with
    | nil => rw [hdj] at hq; cases hq
    | cons f r =>
      have hf : t[j]? = some f := by have : (t.drop j)[0]? = some f := by rw [hdj]; rfl
                                     simpa using this
      have h1 := ha f hf
      rw [hdj] at hq r2
      have hfe := h.fresh he f (List.mem_of_getElem? hf)
      rcases List.mem_cons.1 hq with rfl | hq
      · omega
      · have := (List.pairwise_cons.1 r2).1 q hq; omega
  refine ⟨?_, fun k v => ?_⟩
  · rw [List.append_assoc, List.pairwise_append]
    refine ⟨r1, ?_, ?_⟩
    · rw [List.singleton_append, List.pairwise_cons]; exact ⟨hd, r2⟩
    · intro a ha' b hb'
      rcases List.mem_append.1 hb' with h1 | h1
      · simp at h1; subst h1; exact hb a ha'
      · exact r3 a ha' b h1
  · have hm : (k, v) ∈ t.take j ++ [e] ++ t.drop j ↔ (k, v) = e ∨ (k, v) ∈ t := by
      conv => rhs; rw [hsp]
      simp only [List.mem_append, List.mem_singleton]
      constructor
      · rintro ((h | h) | h)
        · exact .inr (.inl h)
        · exact .inl h
        · exact .inr (.inr h)
      · rintro (h | h | h)
        · exact .inl (.inr h)
        · exact .inl (.inl h)
        · exact .inr h
    rw [hm, h.mem]
    constructor
    · rintro (rfl | ⟨q, hq, h1⟩)
      · exact ⟨i, by omega, he, hl⟩
      · exact ⟨q, by omega, h1⟩
    · rintro ⟨q, hq, h1, h2⟩
      rcases Nat.lt_or_ge q i with h3 | h3
      · exact .inr ⟨q, h3, h1, h2⟩
      · obtain rfl : q = i := by omega
        rw [he] at h1
        exact .inl (by cases h1; rfl)
theorem lst_all (zs : List (Int × Int)) (k v : Int) : Lst zs zs.length k v ↔ lk zs k = some v := by
  induction zs using snocInd with
  | nil => simp [Lst, lk]
  | snoc l e ih =>
    rw [lk_snoc]
    constructor
    · rintro ⟨j, hj, h1, h2⟩
      rw [List.length_append, List.length_singleton] at hj
      rcases Nat.lt_or_ge j l.length with h3 | h3
      · have hne : ¬ e.1 = k := h2 e (by rw [List.drop_append_of_le_length (by omega)]; simp)
        rw [if_neg hne, ← ih]
        refine ⟨j, h3, by rwa [List.getElem?_append_left h3] at h1, fun q hq => h2 q (by rw [List.drop_append_of_le_length (by omega)]; exact List.mem_append_left _ hq)⟩
      · obtain rfl : j = l.length := by omega
        simp at h1
        rw [if_pos (by rw [h1]), h1]
    · intro h
      split at h
      · rename_i hk
        refine ⟨l.length, by simp, ?_, ?_⟩
        · simp at h; simp; rw [← hk, ← h]
        · simp
      · rename_i hk
        obtain ⟨j, hj, h1, h2⟩ := ih.2 h
        refine ⟨j, by simp; omega, by rwa [List.getElem?_append_left hj], fun q hq => ?_⟩
        rw [List.drop_append_of_le_length (by omega)] at hq
        rcases List.mem_append.1 hq with hq | hq
        · exact h2 q hq
        · simp at hq; rw [hq]; exact hk
theorem TI.tab {zs t : List (Int × Int)} (h : TI zs zs.length t) : Tab t (lk zs) := ⟨h.rising, fun k v => (h.mem k v).trans (lst_all zs k v)⟩
/-- the row while its end is moved up -/
theorem shift_step {t : List (Int × Int)} {k : Nat} {q jk : Int × Int} (hq : t[k]? = some q) : (t.take (k + 1) ++ [jk] ++ t.drop (k + 1)).set (k + 1) q = t.take k ++ [q] ++ t.drop k := by
  obtain ⟨hk, rfl⟩ := List.getElem?_eq_some_iff.1 hq
  have hl : (t.take (k + 1)).length = k + 1 := by simp; omega
  rw [List.append_assoc, List.set_append_right _ _ (by omega), hl, Nat.sub_self]
  simp only [List.singleton_append, List.set_cons_zero]
  rw [List.take_succ_eq_append_getElem hk, List.append_assoc, List.append_assoc, List.drop_eq_getElem_cons hk]
  try simp
theorem shift_at {t : List (Int × Int)} {k : Nat} {jk : Int × Int} (hk : k < t.length) : (t.take (k + 1) ++ [jk] ++ t.drop (k + 1))[k]? = t[k]? := by
  rw [List.append_assoc, List.getElem?_append_left (by simp; omega), List.getElem?_take, if_pos (by omega)]
theorem shift_end {t : List (Int × Int)} {k : Nat} {q jk : Int × Int} (hk : k ≤ t.length) : (t.take k ++ [jk] ++ t.drop k).set k q = t.take k ++ [q] ++ t.drop k := by
  have hl : (t.take k).length = k := by simp; omega
  rw [List.append_assoc, List.set_append_right _ _ (by omega), hl, Nat.sub_self]
  simp
theorem pairs_set (u : List (Int × Int)) (k : Nat) (x y : Int) : ((pairs u).set (k * 2) (.int .i64 x)).set (k * 2 + 1) (.int .i64 y) = pairs (u.set k (x, y)) := by
  induction u generalizing k with
  | nil => simp [pairs]
  | cons p u ih =>
    cases k with
    | zero => simp [pairs]
    | succ k =>
      have := ih k
      simp only [pairs, List.flatMap_cons, List.set_cons_succ] at *
      rw [show (k + 1) * 2 = k * 2 + 1 + 1 by omega, show k * 2 + 1 + 1 + 1 = (k * 2 + 1) + 1 + 1 by omega]
      simp only [List.cons_append, List.nil_append, List.set_cons_succ, this]
/-- none of the first j behind place k has the key x -/
def lastB (zs : List (Int × Int)) (k : Nat) (x : Int) (j : Nat) : Bool := ((zs.drop (k + 1)).take j).all fun q => !(q.1 == x)
theorem lastB_zero (zs : List (Int × Int)) (k : Nat) (x : Int) : lastB zs k x 0 = true := by simp [lastB]
theorem lastB_eq {zs : List (Int × Int)} {k j : Nat} {x p q : Int} (h : zs[k + 1 + j]? = some (p, q)) (he : p = x) : lastB zs k x (j + 1) = false := by
  have h2 : (zs.drop (k + 1))[j]? = some (p, q) := by rw [List.getElem?_drop]; exact h
  obtain ⟨hj, e⟩ := List.getElem?_eq_some_iff.1 h2
  unfold lastB
  rw [List.take_succ_eq_append_getElem hj, e, List.all_append]
  simp [he]
theorem lastB_ne {zs : List (Int × Int)} {k j : Nat} {x p q : Int} (h : zs[k + 1 + j]? = some (p, q)) (he : p ≠ x) : lastB zs k x (j + 1) = lastB zs k x j := by
  have h2 : (zs.drop (k + 1))[j]? = some (p, q) := by rw [List.getElem?_drop]; exact h
  obtain ⟨hj, e⟩ := List.getElem?_eq_some_iff.1 h2
  unfold lastB
  rw [List.take_succ_eq_append_getElem hj, e, List.all_append]
  simp [he]
theorem lastB_all {zs : List (Int × Int)} {k mm : Nat} {x : Int} (h : zs.length = k + 1 + mm) : (lastB zs k x mm = true) ↔ ∀ q ∈ zs.drop (k + 1), q.1 ≠ x := by
  unfold lastB
  rw [List.take_of_length_le (by rw [List.length_drop]; omega), List.all_eq_true]
  simp
end Go.Proofs.Ytcgcfenenkdhlaa
