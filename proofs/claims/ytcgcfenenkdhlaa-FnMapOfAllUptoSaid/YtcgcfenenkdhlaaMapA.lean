/-
  impl.MapAll.
-/
import Derived.Maps.AppendAt
import Derived.Outline
import Derived.Test.YtcgcfenenkdhlaaMapK
import Derived.Test.YtcgcfenenkdhlaaSlcW
import Derived.Test.YtcgcfenenkdhlaaTabL
namespace Go.Proofs.Ytcgcfenenkdhlaa
open Go.RowKit Go.Maps Go.Sort Go.Shelf
set_option linter.unusedVariables false
set_option linter.unusedSimpArgs false
attribute [local go_sem] Oper.semAt_some

set_option maxRecDepth 100000 in
set_option maxHeartbeats 2000000 in
theorem implMapAll (a : Option Addr) (len cap : Nat) (zs : List (Int × Int)) (hreach : len * 16 ≤ 140737488351232) (hf : WF zs) (w : World) (hI : Rd w w.heap.size 2 a len (pairs zs)) :
    Calls Try.prog 16 #[.slice a len cap] w fun e W' => ∃ A' m c' ts, e = .returned (.slice A' m c') ∧ W'.ownsRow w.heap.size 35 2 (.slice A' m c') m (pairs ts) ∧ Tab ts (lk zs) ∧ ts.length = m ∧ m ≤ len ∧ Below w.heap.size w W' := by
  refine (callsIn_wide (n := 3)).1 ?_
  have HF := hide hf
  clear hf
  obtain ⟨i0, hi, hz0, hz1, hz2⟩ := info_parts infoIE
  refine callsIn_of_wp_marks Try.func16 rfl trivial ?_ rfl
  simp only [Try.ntmps16, List.size_toArray, List.length_cons, List.length_nil, Nat.reduceAdd, Nat.reduceSub, Array.replicate_succ, Array.replicate_zero, List.push_toArray, List.append_toArray, List.nil_append, List.cons_append]
  gi_wp2_with (first
    | (refine ⟨trivial, ?_⟩; gi_at_call 36; refine (callsIn_wide.2 (implTable a len cap zs hreach HF.out _ ((hI.alloc (Nat.le_refl _) _).more (by simp)))).mono ?_; rintro e w1 ⟨rfl, hm, hB1⟩)
    | (refine ⟨trivial, ?_⟩; gi_at_call 35; refine (mall_in _ _ _).mono ?_; rintro e w2 ⟨rfl, rfl⟩))
  obtain ⟨w0, hw0⟩ : ∃ w0, w0 = w.alloc (.cells #[.slice none 0 0] 22) := ⟨_, rfl⟩
  have bO : Boxed w0 w.heap.size 22 (.slice none 0 0) := by rw [hw0]; exact Boxed.new w 22 (.slice none 0 0)
  have hBw : Below w.heap.size w w0 := by rw [hw0]; exact (Below.refl _ w).alloc (Nat.le_refl _) _
  rw [← hw0] at hB1
  simp only [World.size_alloc] at hm hB1
  have hs0 : w0.heap.size = w.heap.size + 1 := by rw [hw0]; simp
  try rw [hs0] at hB1
  clear hw0
  have hbd := hm.size_le
  have hml := hm.lt
  have bO1 : Boxed w1 w.heap.size 22 (.slice none 0 0) := (hB1.block _ (by omega)).trans bO
  have bN := Boxed.new w1 47 (.map (some (w.heap.size + 1)))
  have hB0 : Below w.heap.size w (w1.alloc (.cells #[.map (some (w.heap.size + 1))] 47)) := hBw.trans ((hB1.mono (by omega)).alloc (by have := hB1.size; omega) _)
  have hsz := hB1.size
  refine wpIn_rangeFunc_ownG rfl (by decide) (gf := 51) (lb := #[.pointer (some ⟨w1.heap.size, 0, none⟩)]) rfl trivial (enters_of Try.func51 (by kernel_rfl) rfl)
    (mall_stops 2 (by decide) w1.heap.size (w.heap.size + 1) len (mp zs) (w1.alloc (.cells #[.map (some (w.heap.size + 1))] 47)) (by simp) bN.cell (hm.alloc _)) walksK_t walksK_b (Below.refl _ _) (fun _ => rfl)
    (fun pre W => (∃ v, Boxed W w.heap.size 22 v ∧ W.ownsRow w.heap.size 35 2 v pre.length (pairs pre) ∧ True) ∧ Below w.heap.size w W) (fun _ _ _ => False)
    (OwnFrom.and (Own.from (holdsRow_own w.heap.size w.heap.size 22 35 2 (fun pre => pre.length) (fun pre => pairs pre) (fun _ _ => True)) _) (ownFrom_below (by omega) (by simp; omega)))
    (fun _ _ _ _ _ h _ _ => h)
    ⟨⟨_, bO1.alloc _, World.ownsRow_nil _ _ _ _, trivial⟩, hB0⟩
    (fun x => { tmps := #[.slice a len cap, undef, .slice none 0 0, .pointer (some ⟨w.heap.size, 0, none⟩), .int .i64 x.1, .int .i64 x.2, .slice a len cap, .map (some (w.heap.size + 1)), .func (.func 51) #[] #[.pointer (some ⟨w1.heap.size, 0, none⟩)], .int .i64 x.1, .int .i64 x.2, undef, undef, undef, undef, undef, undef, undef, undef, undef, undef, undef], defers := [] }) ?assign ?body ?done ?stop
  case assign =>
    intro l x W K hK
    gi_wp2
    exact hK
  case body =>
    rintro l pre x W ⟨⟨v, hv, hrow, _⟩, hB⟩ hlt
    obtain ⟨A', c', rfl⟩ := own_slice hrow
    have hc := hv.cell
    gi_wp2_with (gi_at_builtin; go_must (refine wpListIn_append_own _ rfl _ _ 22 rfl w.heap.size 35 i0 (.agg #[.int .i64 0, .int .i64 0]) 2 16 Try.underlying22 hi hz0 hz1 hz2 rfl (by decide) _ _ _ rfl (hrow.alloc _) ⟨W.heap.size, 0, none⟩ 1 1 [.int .i64 x.1, .int .i64 x.2] rfl rfl (cell_two_new _ _ _ _) (by simp [Value.oneCell']) (by unfold maxLen; omega) (by omega) (by have := hB.size; simp; omega) ?_); intro v' w2 hown' hgrow _; obtain ⟨g', cap', rfl⟩ := ownsRow_succ hown'; obtain ⟨hv1, hv2, hr2, hk2, hb2⟩ := hv.appended (by decide) hrow (by have := hB.size; omega) (Nat.le_refl _) hown' hgrow; have hc1 := hv1.cell; have hf1 := hv1.frozen)
    exact ⟨hk2.from _, hk2.walks, ⟨_, hv2, by rw [pairs_append, pairs_one]; simpa using hr2, trivial⟩, hB.trans hb2⟩
  case done =>
    rintro D ys W hD ⟨ps, hps, hys⟩ ⟨⟨v, hv, hrow, _⟩, hB⟩ hK
    have hall : AllF (lk zs) ps := (reads_mp zs).allF hps.1 hps.2.1 hps.2.2
    have hle : ps.length ≤ len := by have h1 := hall.le; have h2 := hI.1; rw [pairs_length] at h2; omega
    rw [hys] at hrow
    clear hys
    obtain ⟨A', c', rfl⟩ := own_slice hrow
    have hc := hv.cell
    gi_wp2_with (refine ⟨trivial, ?_⟩; gi_at_call 37; refine (callsIn_wide.2 (sliceOwn 38 lt2 swo_lt2 lessAt2 (enters_of Try.func38 (by kernel_rfl) rfl) w.heap.size w.heap.size A' ps.length c' ps W hrow (by omega) hc (by have := hB.size; have := hv.lt; omega) (fun e => hv.not_row (by decide) hrow e.symm))).mono ?_; rintro e w3 ⟨rfl, ts, hpm, hso, ho3, hg3⟩; have hv3 := hv.kept hg3 (hv.not_row (by decide) hrow); have hc3 := hv3.cell)
    have htab : Tab ts (lk zs) := Tab.of_sorted hall hpm (by have := sorted_rise2 (d := ts.toArray) (by simpa using hso); simpa using this)
    have hn3 : w3.heap[D]? = some (.deferred (some [])) := (hg3.block D (Array.getElem?_eq_some_iff.1 hK).1 (own_not_deferred hrow hK)).trans hK
    refine ⟨by simp, .inl ⟨_, _, rfl, run_takeDeferred hn3, ?_⟩⟩
    refine ⟨_, results_tmp rfl _ _ _, A', ps.length, c', ts, rfl, own_base (ownsRow_putObj ho3 _ hn3 rfl) (Nat.le_refl _), htab, hpm.length_eq, hle, ?_⟩
    exact (below_grown_own hB hB.size (Nat.le_refl _) hrow hg3).trans (belowK_b (w := w) (Nat.le_refl _) w3 D _ _ (by simp at hD; omega) hn3 rfl rfl)
  case stop =>
    rintro D c pre W _ _ h _
    exact h.elim
end Go.Proofs.Ytcgcfenenkdhlaa
