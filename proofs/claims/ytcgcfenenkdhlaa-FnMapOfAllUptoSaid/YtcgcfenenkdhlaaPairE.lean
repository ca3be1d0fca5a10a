/-
  impl.All and impl.Backward: the first pairs, at most so many.
-/
import Derived.Maps.AppendAt
import Derived.WalkSmall
import Derived.Outline
import Derived.Deep.DeepMust
import Derived.Test.YtcgcfenenkdhlaaItPE
namespace Go.Proofs.Ytcgcfenenkdhlaa
open Go.RowKit Go.Shelf
set_option linter.unusedVariables false
set_option linter.unusedSimpArgs false
attribute [local go_sem] Oper.semAt_some

theorem infoPair : (Try.prog.info? 42).map (fun i => (i.zero, i.size, i.bytes)) = some (some (.agg #[.int .i64 0, .int .i64 0]), 2, 16) := by kernel_rfl
theorem snoc_le2 {pre : List (Int × Int)} {x : Int × Int} {most : Int} (h : most < 0 ∨ (pre.length : Int) ≤ most) (hn : ¬ (pre.length : Int) = most) : most < 0 ∨ ((pre ++ [x]).length : Int) ≤ most := by
  rw [List.length_append, List.length_singleton]; omega

set_option maxRecDepth 100000 in
set_option maxHeartbeats 2000000 in
theorem implAll_in (F : Fence) (n : Nat) (hf : F.fn 34) (hg : F.fn 50) (hc : F.fn 65) (hro : F.round = none) (hn : 3 ≤ n) (a : Option Addr) (len cap : Nat) (zs : List Int) (most : Int) (hreach : len * 16 ≤ 140737488351232) (w : World) (hI : Rd w w.heap.size 1 a len (ints zs)) :
    CallsIn F n Try.prog 34 #[.slice a len cap, .int .i64 most] w fun e W' => ∃ v, e = .returned v ∧ W'.ownsRow w.heap.size 42 2 v (firstN zs.length most) (pairs (upto (fwd zs) (firstN zs.length most))) ∧ Below w.heap.size w W' := by
  have h1 : 1 ≤ n := by omega
  have hzl : zs.length = len := by have := hI.1; simpa using this
  have HZ := hide hzl
  clear hzl
  obtain ⟨i0, hi, hz0, hz1, hz2⟩ := info_parts infoPair
  refine callsIn_of_wp_marks Try.func34 rfl hf ?_ hro
  simp only [Try.ntmps34, List.size_toArray, List.length_cons, List.length_nil, Nat.reduceAdd, Nat.reduceSub, Array.replicate_succ, Array.replicate_zero, List.push_toArray, List.append_toArray, List.nil_append, List.cons_append]
  gi_wp2_with (gi_at_call 50; refine (all_in F (n - 1) hg hro _ _ _ _).mono ?_; rintro e w' ⟨rfl, rfl⟩)
  have bM := Boxed.new w 3 (.int .i64 most)
  have bO := Boxed.new (w.alloc (.cells #[.int .i64 most] 3)) 39 (.slice none 0 0)
  have bN := Boxed.new ((w.alloc (.cells #[.int .i64 most] 3)).alloc (.cells #[.slice none 0 0] 39)) 24 (.slice a len cap)
  simp only [World.size_alloc] at bO bN
  have hBm : Below w.heap.size w (w.alloc (.cells #[.int .i64 most] 3)) := (Below.refl _ w).alloc (Nat.le_refl _) _
  obtain ⟨w1, hw1⟩ : ∃ w1, w1 = ((w.alloc (.cells #[.int .i64 most] 3)).alloc (.cells #[.slice none 0 0] 39)).alloc (.cells #[.slice a len cap] 24) := ⟨_, rfl⟩
  have hB1 : Below w.heap.size w w1 := by rw [hw1]; exact (hBm.alloc (by simp) _).alloc (by simp; omega) _
  have hs1 : w1.heap.size = w.heap.size + 3 := by rw [hw1]; simp
  have bM1 : Boxed w1 w.heap.size 3 (.int .i64 most) := by rw [hw1]; exact (bM.alloc _).alloc _
  have bO1 : Boxed w1 (w.heap.size + 1) 39 (.slice none 0 0) := by rw [hw1]; exact bO.alloc _
  rw [← hw1] at bN ⊢
  have hsa : w1.heap.size ≤ w.heap.size + 3 := by omega
  have hsb : w.heap.size + 3 ≤ w1.heap.size := by omega
  clear hs1 hw1 bM bO hBm
  refine wpIn_rangeFunc_ownG hro h1 (gf := 65) (lb := #[.pointer (some ⟨w.heap.size + 1 + 1, 0, none⟩)]) rfl hc (enters_of Try.func65 (by kernel_rfl) rfl)
    (all_stops F (n - 1) hc hro (by omega) (w.heap.size + 1 + 1) (w.heap.size + 1) len cap a zs (by omega) _ (by omega) (by omega) bN.cell ((hI.below hB1).more (by omega))) belowK_t (belowK_b (by omega)) (Below.refl _ _) (fun _ => rfl)
    (fun pre W => (∃ v, Boxed W (w.heap.size + 1) 39 v ∧ W.ownsRow (w.heap.size + 1) 42 2 v pre.length (pairs pre) ∧ (most < 0 ∨ (pre.length : Int) ≤ most)) ∧ Below (w.heap.size + 1) w1 W)
    (fun c pre W => (c = .exit 0 ∧ ∃ v, Boxed W (w.heap.size + 1) 39 v ∧ W.ownsRow (w.heap.size + 1) 42 2 v (pre.length - 1) (pairs pre.dropLast) ∧ (pre ≠ [] ∧ ((pre.length - 1 : Nat) : Int) = most)) ∧ Below (w.heap.size + 1) w1 W)
    (OwnFrom.and (Own.from (holdsRow_own (w.heap.size + 1) (w.heap.size + 1) 39 42 2 (fun pre => pre.length) (fun pre => pairs pre) (fun pre _ => (most < 0 ∨ (pre.length : Int) ≤ most))) _) (ownFrom_below (by omega) (by omega)))
    (fun c => OwnFrom.and (OwnFrom.and (ownFrom_pure _ _) (Own.from (holdsRow_own (w.heap.size + 1) (w.heap.size + 1) 39 42 2 (fun pre => pre.length - 1) (fun pre => pairs pre.dropLast) (fun pre _ => (pre ≠ [] ∧ ((pre.length - 1 : Nat) : Int) = most))) _)) (ownFrom_below (by omega) (by omega)))
    ⟨⟨_, bO1, World.ownsRow_nil _ _ _ _, by simp; omega⟩, Below.refl _ _⟩
    (fun x => { tmps := #[.slice a len cap, .int .i64 most, undef, .pointer (some ⟨w.heap.size, 0, none⟩), .slice none 0 0, .pointer (some ⟨w.heap.size + 1, 0, none⟩), .int .i64 x.1, .int .i64 x.2, .slice a len cap, .func (.func 65) #[] #[.pointer (some ⟨w.heap.size + 1 + 1, 0, none⟩)], .int .i64 x.1, .int .i64 x.2, undef, undef, undef, undef, undef, undef, undef, undef, undef, undef, undef], defers := [] }) ?assign ?body ?done ?stop
  case assign =>
    intro l x W K hK
    gi_wp2
    exact hK
  case body =>
    rintro l pre x W ⟨⟨v, hv, hrow, hle⟩, hB⟩ hlt
    obtain ⟨A', c', rfl⟩ := own_slice hrow
    have hc := hv.cell
    have hmc := (hB.cell (p := ⟨w.heap.size, 0, none⟩) (by simp)).trans bM1.cell
    by_cases hm : (pre.length : Int) = most
    · have hm' : ((pre.length : Int) == most) = true := by simpa using hm
      have HM := hide hm
      clear hm
      gi_wp2
      exact ⟨KeepsFrom.refl _ _, ⟨rfl, _, hv, by simpa using hrow, by simp, by simpa using HM.out⟩, hB⟩
    · have hm' : ((pre.length : Int) == most) = false := by simpa using hm
      have HM := hide hm
      clear hm
      gi_wp2_with (gi_at_builtin; go_must (refine wpListIn_append_own _ rfl _ _ 39 rfl (w.heap.size + 1) 42 i0 (.agg #[.int .i64 0, .int .i64 0]) 2 16 Try.underlying39 hi hz0 hz1 hz2 rfl (by decide) _ _ _ rfl (hrow.alloc _) ⟨W.heap.size, 0, none⟩ 1 1 [.int .i64 x.1, .int .i64 x.2] rfl rfl (cell_two_new _ _ _ _) (by simp [Value.oneCell']) (by unfold maxLen; omega) (by omega) (by have := hB.size; simp; omega) ?_); intro v' w2 hown' hgrow _; obtain ⟨g', cap', rfl⟩ := ownsRow_succ hown'; obtain ⟨hv1, hv2, hr2, hk2, hb2⟩ := hv.appended (by decide) hrow (by have := hB.size; omega) (Nat.le_refl _) hown' hgrow; have hc1 := hv1.cell; have hf1 := hv1.frozen)
      exact ⟨hk2.from _, hb2, ⟨_, hv2, by rw [pairs_append, pairs_one]; simpa using hr2, snoc_le2 hle HM.out⟩, hB.trans hb2⟩
  case done =>
    rintro D ys W hD rfl ⟨⟨v, hv, hrow, hle⟩, hB⟩ hK
    have hc := hv.cell
    gi_wp2
    refine ⟨by simp, .inl ⟨_, _, rfl, run_takeDeferred hK, ?_⟩⟩
    refine ⟨_, results_tmp rfl _ _ _, v, rfl, ?_, ?_⟩
    · rw [upto_length] at hle hrow
      have hq : firstN zs.length most = len := by have := HZ.out; unfold firstN; split <;> omega
      rw [hq]
      exact own_base (ownsRow_putObj hrow _ hK rfl) (by omega)
    · exact hB1.trans ((hB.mono (Nat.le_succ _)).trans (belowK_b (w := w) (Nat.le_refl _) W D _ _ (by omega) hK rfl rfl))
  case stop =>
    rintro D c pre W hD ⟨k, hk, rfl⟩ ⟨⟨rfl, v, hv, hrow, hne, hm⟩, hB⟩ hK
    have hc := hv.cell
    have HM := hide hm
    clear hm
    gi_wp2
    refine ⟨by simp, .inl ⟨_, _, rfl, run_takeDeferred hK, ?_⟩⟩
    refine ⟨_, results_tmp rfl _ _ _, v, rfl, ?_, ?_⟩
    · have hm := HM.out
      rw [upto_length] at hm hrow
      have hl : 0 < k := by
        rcases Nat.eq_zero_or_pos k with h0 | h0
        · subst h0; exact absurd rfl hne
        · exact h0
      have hq : firstN zs.length most = k - 1 := by have := HZ.out; unfold firstN; split <;> omega
      rw [hq, ← upto_drop]
      exact own_base (ownsRow_putObj hrow _ hK rfl) (by omega)
    · exact hB1.trans ((hB.mono (Nat.le_succ _)).trans (belowK_b (w := w) (Nat.le_refl _) W D _ _ (by omega) hK rfl rfl))

end Go.Proofs.Ytcgcfenenkdhlaa
