/-
  The stable order by counting: a place's rank is how many belong before it.
-/
import Derived.Laws.OwnMore
import Derived.Test.YtiocgmeonfanmaaSpI
namespace Go.Proofs.Ytiocgmeonfanmaa
open Go.RowKit Go.Sort
set_option linter.unusedVariables false
set_option linter.unusedSimpArgs false

/-- j counts before i -/
def befB (s : Int) (os : List Int) (zs : List (Int × Int)) (i j : Nat) : Bool := decide (cmpO s os (at0 zs j).1 (at0 zs i).1 < 0) || (decide (cmpO s os (at0 zs j).1 (at0 zs i).1 = 0) && decide (j < i))
/-- how many of the first k count before i -/
def cntB (s : Int) (os : List Int) (zs : List (Int × Int)) (i k : Nat) : Nat := (List.range k).countP (befB s os zs i)
theorem cntB_zero (s : Int) (os : List Int) (zs : List (Int × Int)) (i : Nat) : cntB s os zs i 0 = 0 := rfl
theorem cntB_yes {s : Int} {os : List Int} {zs : List (Int × Int)} {i k : Nat} (h : befB s os zs i k = true) : cntB s os zs i (k + 1) = cntB s os zs i k + 1 := by
  unfold cntB; rw [List.range_succ, List.countP_append]; simp [h]
theorem cntB_no {s : Int} {os : List Int} {zs : List (Int × Int)} {i k : Nat} (h : befB s os zs i k = false) : cntB s os zs i (k + 1) = cntB s os zs i k := by
  unfold cntB; rw [List.range_succ, List.countP_append]; simp [h]
theorem cntB_le (s : Int) (os : List Int) (zs : List (Int × Int)) (i k : Nat) : cntB s os zs i k ≤ k := by
  have := List.countP_le_length (p := befB s os zs i) (l := List.range k)
  simpa [cntB] using this
theorem befB_iff {s : Int} {os : List Int} {zs : List (Int × Int)} (hw : WeakP s os zs) {i j : Nat} (hi : i < zs.length) (hj : j < zs.length) : befB s os zs i j = true ↔ BefL s os zs j i := by
  have f := sgn_flip ((hw _ (at0_mem hj)).2 _ (at0_mem hi)).1
  have e1 : ltOf (cfI s os (at0 zs)) i j = decide (cmpO s os (at0 zs i).1 (at0 zs j).1 < 0) := rfl
  have e2 : ltOf (cfI s os (at0 zs)) j i = decide (cmpO s os (at0 zs j).1 (at0 zs i).1 < 0) := rfl
  unfold BefL Bef befB
  rw [e1, e2]
  simp only [Bool.or_eq_true, Bool.and_eq_true, decide_eq_true_eq, decide_eq_false_iff_not, id]
  generalize cmpO s os (at0 zs i).1 (at0 zs j).1 = x at f
  generalize cmpO s os (at0 zs j).1 (at0 zs i).1 = y at f
  constructor
  · rintro (h | ⟨h, k⟩)
    · exact ⟨by omega, .inl h⟩
    · exact ⟨by omega, .inr k⟩
  · rintro ⟨h, k | k⟩
    · exact .inl k
    · rcases Int.lt_trichotomy y 0 with z | z | z
      · exact .inl z
      · exact .inr ⟨z, k⟩
      · omega
theorem countP_all {α : Type} {p : α → Bool} : ∀ {l : List α}, (∀ x ∈ l, p x = true) → l.countP p = l.length := fun h => List.countP_eq_length.2 h
theorem countP_none {α : Type} {p : α → Bool} {l : List α} (h : ∀ x ∈ l, p x = false) : l.countP p = 0 := List.countP_eq_zero.2 fun x hx => by rw [h x hx]; simp
/-- the rank of the place at p is p -/
theorem rank_at {s : Int} {os : List Int} {zs : List (Int × Int)} (hw : WeakP s os zs) {js : List Nat} (hp : js.Perm (List.range zs.length)) (hs : js.Pairwise (BefL s os zs)) {p : Nat} (h : p < js.length) : cntB s os zs js[p] zs.length = p := by
  have hmem : ∀ j ∈ js, j < zs.length := fun j hj => by have := hp.mem_iff.1 hj; simpa using this
  unfold cntB
  rw [← hp.countP_eq]
  have hi : js[p] < zs.length := hmem _ (List.getElem_mem h)
  have pw := List.pairwise_iff_getElem.1 hs
  have e : js = js.take p ++ js[p] :: js.drop (p + 1) := by rw [← List.drop_eq_getElem_cons h]; exact (List.take_append_drop p js).symm
  have anti : ∀ a b, BefL s os zs a b → BefL s os zs b a → False := fun a b e1 e2 => by
    rcases e1.2 with x | x
    · rw [e2.1] at x; cases x
    · rcases e2.2 with y | y
      · rw [e1.1] at y; cases y
      · simp only [id] at x y; omega
  have c1 : (js.take p).countP (befB s os zs js[p]) = p := by
    rw [countP_all, List.length_take]; omega
    intro x hx
    obtain ⟨q, hq, rfl⟩ := List.getElem_of_mem hx
    have hq' : q < p ∧ q < js.length := by have := hq; rw [List.length_take] at this; omega
    rw [List.getElem_take]
    exact (befB_iff hw hi (hmem _ (List.getElem_mem hq'.2))).2 (pw q p hq'.2 h hq'.1)
  have c2 : (js.drop (p + 1)).countP (befB s os zs js[p]) = 0 := by
    refine countP_none fun x hx => ?_
    obtain ⟨q, hq, rfl⟩ := List.getElem_of_mem hx
    rw [List.getElem_drop]
    have hq' : p + 1 + q < js.length := by simp at hq; omega
    cases hb : befB s os zs js[p] js[p + 1 + q] with
    | false => rfl
    | true => exact (anti _ _ ((befB_iff hw hi (hmem _ (List.getElem_mem hq'))).1 hb) (pw p (p + 1 + q) h hq' (by omega))).elim
  have c3 : befB s os zs js[p] js[p] = false := by
    cases hb : befB s os zs js[p] js[p] with
    | false => rfl
    | true => exact (anti _ _ ((befB_iff hw hi hi).1 hb) ((befB_iff hw hi hi).1 hb)).elim
  have key : (js.take p ++ js[p] :: js.drop (p + 1)).countP (befB s os zs js[p]) = p := by
    rw [List.countP_append, List.countP_cons, c1, c2, c3]; simp
  rwa [← e] at key
/-- the rank of a place, in the list in stable order -/
theorem rank_of {s : Int} {os : List Int} {zs ts : List (Int × Int)} (hw : WeakP s os zs) (h : StS s os zs ts) {i : Nat} (hi : i < zs.length) : ts[cntB s os zs i zs.length]? = some (at0 zs i) := by
  obtain ⟨js, hp, rfl, hs⟩ := h
  have hm : i ∈ js := hp.mem_iff.2 (by simpa using hi)
  obtain ⟨p, hpl, rfl⟩ := List.getElem_of_mem hm
  rw [rank_at hw hp hs hpl]
  simp [hpl]
/-- what the places of the ranks hold is all -/
theorem ranks_all {s : Int} {os : List Int} {zs ts ys : List (Int × Int)} (hw : WeakP s os zs) (h : StS s os zs ts) (hl : ys.length = zs.length) (hy : ∀ i, i < zs.length → ys[cntB s os zs i zs.length]? = ts[cntB s os zs i zs.length]?) : ys = ts := by
  have htl : ts.length = zs.length := h.perm.length_eq
  obtain ⟨js, hp, rfl, hs⟩ := h
  have hjl : js.length = zs.length := by simpa using hp.length_eq
  apply List.ext_getElem?
  intro p
  by_cases hpn : p < js.length
  · have hr := rank_at hw hp hs hpn
    have hi : js[p] < zs.length := by have := hp.mem_iff.1 (List.getElem_mem hpn); simpa using this
    have := hy _ hi
    rwa [hr] at this
  · rw [List.getElem?_eq_none (by omega), List.getElem?_eq_none (by simp; omega)]
theorem pairs_set (u : List (Int × Int)) (k : Nat) (x y : Int) : ((pairs u).set (k * 2) (.int .i64 x)).set (k * 2 + 1) (.int .i64 y) = pairs (u.set k (x, y)) := by
  induction u generalizing k with
  | nil => simp [pairs]
  | cons p u ih =>
    cases k with
    | zero => simp [pairs]
    | succ k =>
      have := ih k
      simp only [pairs, List.flatMap_cons, List.set_cons_succ] at *
      rw [show (k + 1) * 2 = k * 2 + 1 + 1 by omega, show k * 2 + 1 + 1 + 1 = (k * 2 + 1) + 1 + 1 by omega]
      simp only [List.cons_append, List.nil_append, List.set_cons_succ, this]
theorem made_pairs (n : Nat) : (madeCells #[Value.int .i64 0, Value.int .i64 0] (n * 2)).toList = pairs (List.replicate n (0, 0)) := by
  apply List.ext_getElem?
  intro j
  by_cases hj : j < n * 2
  · have h1 : (madeCells #[Value.int .i64 0, Value.int .i64 0] (n * 2)).toList[j]? = some (Value.int .i64 0) := by
      rcases Nat.mod_two_eq_zero_or_one j with h | h <;> simp [madeCells, hj, h]
    rw [h1]
    have hk : (List.replicate n ((0 : Int), (0 : Int)))[j / 2]? = some (0, 0) := by simp [show j / 2 < n by omega]
    obtain ⟨p1, p2⟩ := pairs_at hk
    rcases Nat.mod_two_eq_zero_or_one j with h | h
    · rw [show j / 2 * 2 = j by omega] at p1; exact p1.symm
    · rw [show j / 2 * 2 + 1 = j by omega] at p2; exact p2.symm
  · rw [List.getElem?_eq_none (by simp [madeCells]; omega), List.getElem?_eq_none (by rw [pairs_length]; simp; omega)]
theorem set_rank {ts ys : List (Int × Int)} {p q : Nat} {x : Int × Int} (hp : p < ys.length) (ht : ts[p]? = some x) (hy : ys[q]? = ts[q]?) : (ys.set p x)[q]? = ts[q]? := by
  by_cases e : p = q
  · subst e; rw [List.getElem?_set_self hp, ht]
  · rw [List.getElem?_set_ne e, hy]
end Go.Proofs.Ytiocgmeonfanmaa
