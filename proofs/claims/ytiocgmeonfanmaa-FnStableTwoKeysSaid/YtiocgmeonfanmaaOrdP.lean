/-
  Two lists of the same items, both in order by a weak order, are equal by the order at each place; laws.so in a grown world.
-/
import Derived.Test.YtiocgmeonfanmaaSoF
import Derived.Test.YtiocgmeonfanmaaWeak
namespace Go.Proofs.Ytiocgmeonfanmaa
open Go.RowKit Go.Sort Go.Shelf
set_option linter.unusedVariables false
set_option linter.unusedSimpArgs false

theorem eq_places {α : Type} (lt : α → α → Bool) {ts us : List α} (hp : ts.Perm us) (nt : ∀ x ∈ ts, ∀ y ∈ ts, ∀ z ∈ ts, lt x y = false → lt y z = false → lt x z = false) (irr : ∀ x ∈ ts, lt x x = false) (hts : ts.Pairwise fun x y => lt y x = false) (hus : us.Pairwise fun x y => lt y x = false) (i : Nat) (h1 : i < ts.length) (h2 : i < us.length) : lt ts[i] us[i] = false := by
  cases hl : lt ts[i] us[i] with
  | false => rfl
  | true =>
    exfalso
    have hc : ts.countP (fun x => lt x us[i]) = us.countP (fun x => lt x us[i]) := hp.countP_eq _
    have hmem : us[i] ∈ ts := hp.mem_iff.2 (List.getElem_mem h2)
    have c1 : (ts.take (i + 1)).countP (fun x => lt x us[i]) = (ts.take (i + 1)).length := by
      rw [List.countP_eq_length]
      intro x hx
      obtain ⟨k, hk, rfl⟩ := List.mem_iff_getElem.1 hx
      rw [List.length_take] at hk
      rw [List.getElem_take]
      rcases Nat.lt_or_eq_of_le (show k ≤ i by omega) with h | rfl
      · have h3 := (List.pairwise_iff_getElem.1 hts) k i (by omega) h1 h
        cases hk2 : lt ts[k] us[i] with
        | true => rfl
        | false =>
          have := nt _ (List.getElem_mem h1) _ (List.getElem_mem (by omega)) _ hmem h3 hk2
          rw [hl] at this; cases this
      · exact hl
    have c2 : (us.drop i).countP (fun x => lt x us[i]) = 0 := by
      rw [List.countP_eq_zero]
      intro x hx
      obtain ⟨k, hk, rfl⟩ := List.mem_iff_getElem.1 hx
      rw [List.length_drop] at hk
      rw [List.getElem_drop]
      by_cases h : k = 0
      · subst h
        have := irr _ hmem
        simp only [Nat.add_zero]
        rw [this]; simp
      · have h3 := (List.pairwise_iff_getElem.1 hus) i (i + k) h2 (by omega) (by omega)
        rw [h3]; simp
    have e1 := List.countP_append (p := fun x => lt x us[i]) (l₁ := ts.take (i + 1)) (l₂ := ts.drop (i + 1))
    have e2 := List.countP_append (p := fun x => lt x us[i]) (l₁ := us.take i) (l₂ := us.drop i)
    rw [List.take_append_drop] at e1 e2
    have b2 : (us.take i).countP (fun x => lt x us[i]) ≤ (us.take i).length := List.countP_le_length
    rw [List.length_take] at c1 b2
    omega
theorem sub_perm {α : Type} {zs ts : List α} (h : ts.Perm zs) {a : α} (ha : a ∈ ts) : a ∈ zs := h.mem_iff.1 ha
/-- at each place the two lists are equal by the order -/
theorem cmp_zero {s : Int} {os : List Int} {zs ts us : List (Int × Int)} (hw : WeakP s os zs) (h1 : ts.Perm zs) (h2 : us.Perm zs) (o1 : SrO s os ts) (o2 : SrO s os us) {i : Nat} {a b : Int × Int} (ha : ts[i]? = some a) (hb : us[i]? = some b) : cmpO s os a.1 b.1 = 0 := by
  have hS := hw.swo (fun x : {x // x ∈ zs} => x.val) (fun x => x.2)
  have nt : ∀ x ∈ zs, ∀ y ∈ zs, ∀ z ∈ zs, decide (cmpO s os x.1 y.1 < 0) = false → decide (cmpO s os y.1 z.1 < 0) = false → decide (cmpO s os x.1 z.1 < 0) = false := fun x hx y hy z hz e1 e2 => hS.ntrans ⟨x, hx⟩ ⟨y, hy⟩ ⟨z, hz⟩ e1 e2
  have irr : ∀ x ∈ zs, decide (cmpO s os x.1 x.1 < 0) = false := fun x hx => hS.irrefl ⟨x, hx⟩
  obtain ⟨l1, rfl⟩ := List.getElem?_eq_some_iff.1 ha
  obtain ⟨l2, rfl⟩ := List.getElem?_eq_some_iff.1 hb
  have p1 : ts.Pairwise fun x y => decide (cmpO s os y.1 x.1 < 0) = false := List.Pairwise.imp (fun h => decide_eq_false h) o1
  have p2 : us.Pairwise fun x y => decide (cmpO s os y.1 x.1 < 0) = false := List.Pairwise.imp (fun h => decide_eq_false h) o2
  have r1 := eq_places (fun x y : Int × Int => decide (cmpO s os x.1 y.1 < 0)) (h1.trans h2.symm) (fun x hx y hy z hz => nt x (sub_perm h1 hx) y (sub_perm h1 hy) z (sub_perm h1 hz)) (fun x hx => irr x (sub_perm h1 hx)) p1 p2 i l1 l2
  have r2 := eq_places (fun x y : Int × Int => decide (cmpO s os x.1 y.1 < 0)) (h2.trans h1.symm) (fun x hx y hy z hz => nt x (sub_perm h2 hx) y (sub_perm h2 hy) z (sub_perm h2 hz)) (fun x hx => irr x (sub_perm h2 hx)) p2 p1 i l2 l1
  have r1 := of_decide_eq_false r1
  have r2 := of_decide_eq_false r2
  have f := sgn_flip ((hw _ (sub_perm h1 (List.getElem_mem l1))).2 _ (sub_perm h2 (List.getElem_mem l2))).1
  have := f.2
  omega
theorem StS.sro {s : Int} {os : List Int} {zs ts : List (Int × Int)} (h : StS s os zs ts) : SrO s os ts := by
  obtain ⟨js, _, rfl, h2⟩ := h
  unfold SrO
  rw [List.pairwise_map]
  exact List.Pairwise.imp (fun h => of_decide_eq_false h.1) h2
set_option maxHeartbeats 1000000 in
theorem lawsSoG (s : Int) (A : Option Addr) (l c : Nat) (w : World) :
    Calls Try.prog 14 #[.agg #[.int .i64 s, .slice A l c]] w fun e w' => e = .returned (.agg #[.int .i64 s, .slice A l c]) ∧ ∃ q os', w' = grow (w.drewN q) os' := by
  go_enter Try.func14, Try.ntmps14
  go_wp2
  refine bodyPost_ret (v := .agg #[.int .i64 s, .slice A l c]) ?_ rfl ?_
  · simp [results, Try.results14, go_sem]
  · exact ⟨rfl, 0, #[_, _], rfl⟩
end Go.Proofs.Ytiocgmeonfanmaa
