/-
  impl.Values: the first elements of a slice, at most so many.
-/
import Derived.Maps.AppendAt
import Derived.Outline
import Derived.Deep.DeepMust
import Derived.Test.YtbgkchjephioiaaIt
namespace Go.Proofs.Ytbgkchjephioiaa
open Go.RowKit Go.Shelf
set_option linter.unusedVariables false
set_option linter.unusedSimpArgs false
attribute [local go_sem] Oper.semAt_some


theorem snoc_le {pre : List Int} {x : Int} {most : Int} (h : most < 0 ∨ (pre.length : Int) ≤ most) (hn : ¬ (pre.length : Int) = most) : most < 0 ∨ ((pre ++ [x]).length : Int) ≤ most := by
  rw [List.length_append, List.length_singleton]; omega

set_option maxRecDepth 100000 in
set_option maxHeartbeats 2000000 in
theorem implValues_in (F : Fence) (n : Nat) (hf : F.fn 24) (hg : F.fn 39) (hc : F.fn 46) (hro : F.round = none) (hn : 3 ≤ n) (a : Option Addr) (len cap : Nat) (zs : List Int) (most : Int) (hreach : len * 8 ≤ 140737488351232) (w : World) (hI : Rd w w.heap.size 1 a len (ints zs)) :
    CallsIn F n Try.prog 24 #[.slice a len cap, .int .i64 most] w fun e W' => ∃ v, e = .returned v ∧ W'.ownsRow w.heap.size 3 1 v (firstN zs.length most) (ints (zs.take (firstN zs.length most))) ∧ Below w.heap.size w W' := by
  have h1 : 1 ≤ n := by omega
  have hzl : zs.length = len := by have := hI.1; simpa using this
  have HZ := hide hzl
  clear hzl
  obtain ⟨i0, hi, hz0, hz1, hz2⟩ := info_parts infoInt
  refine callsIn_of_wp_marks Try.func24 rfl hf ?_ hro
  simp only [Try.ntmps24, List.size_toArray, List.length_cons, List.length_nil, Nat.reduceAdd, Nat.reduceSub, Array.replicate_succ, Array.replicate_zero, List.push_toArray, List.append_toArray, List.nil_append, List.cons_append]
  gi_wp2_with (gi_at_call 39; refine (values_in F (n - 1) hg hro _ _ _ _).mono ?_; rintro e w' ⟨rfl, rfl⟩)
  have bM := Boxed.new w 3 (.int .i64 most)
  have bO := Boxed.new (w.alloc (.cells #[.int .i64 most] 3)) 22 (.slice none 0 0)
  have bN := Boxed.new ((w.alloc (.cells #[.int .i64 most] 3)).alloc (.cells #[.slice none 0 0] 22)) 22 (.slice a len cap)
  simp only [World.size_alloc] at bO bN
  obtain ⟨w1, hw1⟩ : ∃ w1, w1 = w.alloc (.cells #[.int .i64 most] 3) := ⟨_, rfl⟩
  have hB1 : Below w.heap.size w w1 := by rw [hw1]; exact (Below.refl _ w).alloc (Nat.le_refl _) _
  have hs1 : w1.heap.size = w.heap.size + 1 := by rw [hw1]; simp
  rw [← hw1] at bM bO bN ⊢
  have hB0 : Below (w.heap.size + 1) w1 ((w1.alloc (.cells #[.slice none 0 0] 22)).alloc (.cells #[.slice a len cap] 22)) := ((Below.refl _ w1).alloc (by omega) _).alloc (by simp; omega) _
  have hsa : w1.heap.size ≤ w.heap.size + 1 := by omega
  have hsb : w.heap.size + 1 ≤ w1.heap.size := by omega
  have HS := hide hs1
  clear hs1 hw1
  refine wpIn_rangeFunc_ownG hro h1 (gf := 46) (lb := #[.pointer (some ⟨w.heap.size + 1 + 1, 0, none⟩)]) rfl hc (enters_of Try.func46 (by kernel_rfl) rfl)
    (values_stops F (n - 1) hc hro (by omega) (w.heap.size + 1 + 1) (w.heap.size + 1) len cap a zs hreach _ (by simp [HS.out]) (by simp; omega) bN.cell (((hI.below hB1).more (Nat.le_succ _)).below hB0)) belowK_t (belowK_b (by simp; omega)) (Below.refl _ _) (fun _ => rfl)
    (fun pre W => (∃ v, Boxed W (w.heap.size + 1) 22 v ∧ W.ownsRow (w.heap.size + 1) 3 1 v pre.length (ints pre) ∧ (most < 0 ∨ (pre.length : Int) ≤ most)) ∧ Below (w.heap.size + 1) w1 W)
    (fun c pre W => (c = .exit 0 ∧ ∃ v, Boxed W (w.heap.size + 1) 22 v ∧ W.ownsRow (w.heap.size + 1) 3 1 v (pre.length - 1) (ints pre.dropLast) ∧ (pre ≠ [] ∧ ((pre.length - 1 : Nat) : Int) = most)) ∧ Below (w.heap.size + 1) w1 W)
    (OwnFrom.and (Own.from (holdsRow_own (w.heap.size + 1) (w.heap.size + 1) 22 3 1 (fun pre => pre.length) (fun pre => ints pre) (fun pre _ => (most < 0 ∨ (pre.length : Int) ≤ most))) _) (ownFrom_below (by omega) (by simp; omega)))
    (fun c => OwnFrom.and (OwnFrom.and (ownFrom_pure _ _) (Own.from (holdsRow_own (w.heap.size + 1) (w.heap.size + 1) 22 3 1 (fun pre => pre.length - 1) (fun pre => ints pre.dropLast) (fun pre _ => (pre ≠ [] ∧ ((pre.length - 1 : Nat) : Int) = most))) _)) (ownFrom_below (by omega) (by simp; omega)))
    ⟨⟨_, bO.alloc _, World.ownsRow_nil _ _ _ _, by simp; omega⟩, hB0⟩
    (fun x => { tmps := #[.slice a len cap, .int .i64 most, undef, .pointer (some ⟨w.heap.size, 0, none⟩), .slice none 0 0, .pointer (some ⟨w.heap.size + 1, 0, none⟩), .int .i64 x, .slice a len cap, .func (.func 46) #[] #[.pointer (some ⟨w.heap.size + 1 + 1, 0, none⟩)], .int .i64 x, undef, undef, undef, undef, undef, undef, undef, undef, undef], defers := [] }) ?assign ?body ?done ?stop
  case assign =>
    intro l x W K hK
    gi_wp2
    exact hK
  case body =>
    rintro l pre x W ⟨⟨v, hv, hrow, hle⟩, hB⟩ hlt
    obtain ⟨A', c', rfl⟩ := own_slice hrow
    have hc := hv.cell
    have hmc := (hB.cell (p := ⟨w.heap.size, 0, none⟩) (by simp)).trans bM.cell
    by_cases hm : (pre.length : Int) = most
    · have hm' : ((pre.length : Int) == most) = true := by simpa using hm
      have HM := hide hm
      clear hm
      gi_wp2
      exact ⟨KeepsFrom.refl _ _, ⟨rfl, _, hv, by simpa using hrow, by simp, by simpa using HM.out⟩, hB⟩
    · have hm' : ((pre.length : Int) == most) = false := by simpa using hm
      have HM := hide hm
      clear hm
      gi_wp2_with (gi_at_builtin; go_must (refine wpListIn_append_own _ rfl _ _ 22 rfl (w.heap.size + 1) 3 i0 (.int .i64 0) 1 8 Try.underlying22 hi hz0 hz1 hz2 rfl (by decide) _ _ _ rfl (hrow.alloc _) ⟨W.heap.size, 0, none⟩ 1 1 [.int .i64 x] rfl rfl (cell_one_new _ _ _) (by simp [Value.oneCell']) (by unfold maxLen; omega) (by omega) (by have := hB.size; simp; omega) ?_); intro v' w2 hown' hgrow _; obtain ⟨g', cap', rfl⟩ := ownsRow_succ hown'; obtain ⟨hv1, hv2, hr2, hk2, hb2⟩ := hv.appended (by decide) hrow (by have := hB.size; omega) (Nat.le_refl _) hown' hgrow; have hc1 := hv1.cell; have hf1 := hv1.frozen)
      exact ⟨hk2.from _, hb2, ⟨_, hv2, by simpa using hr2, snoc_le hle HM.out⟩, hB.trans hb2⟩
  case done =>
    rintro D ys W hD rfl ⟨⟨v, hv, hrow, hle⟩, hB⟩ hK
    have hc := hv.cell
    gi_wp2
    refine ⟨by simp, .inl ⟨_, _, rfl, run_takeDeferred hK, ?_⟩⟩
    refine ⟨_, results_tmp rfl _ _ _, v, rfl, ?_, ?_⟩
    · have hq : firstN ys.length most = ys.length := by unfold firstN; split <;> omega
      rw [hq, List.take_length]
      exact own_base (ownsRow_putObj hrow _ hK rfl) (by omega)
    · exact hB1.trans ((hB.mono (Nat.le_succ _)).trans (belowK_b (w := w) (Nat.le_refl _) W D _ _ (by simp at hD; omega) hK rfl rfl))
  case stop =>
    rintro D c pre W hD hpre ⟨⟨rfl, v, hv, hrow, hne, hm⟩, hB⟩ hK
    have hc := hv.cell
    have HM := hide hm
    clear hm
    gi_wp2
    refine ⟨by simp, .inl ⟨_, _, rfl, run_takeDeferred hK, ?_⟩⟩
    refine ⟨_, results_tmp rfl _ _ _, v, rfl, ?_, ?_⟩
    · have hm := HM.out
      have hl : 0 < pre.length := List.length_pos_iff.2 hne
      have hle := hpre.length_le
      have hq : firstN zs.length most = pre.length - 1 := by unfold firstN; split <;> omega
      have ht : zs.take (pre.length - 1) = pre.dropLast := by
        obtain ⟨t, rfl⟩ := hpre
        rw [List.dropLast_eq_take, List.take_append_of_le_length (by omega)]
      rw [hq, ht]
      exact own_base (ownsRow_putObj hrow _ hK rfl) (by omega)
    · exact hB1.trans ((hB.mono (Nat.le_succ _)).trans (belowK_b (w := w) (Nat.le_refl _) W D _ _ (by simp at hD; omega) hK rfl rfl))
end Go.Proofs.Ytbgkchjephioiaa
