/-
  impl.MapKeys, impl.MapValues; the walks that are broken off.
-/
import Derived.Maps.AppendAt
import Derived.Outline
import Derived.Test.YtcgcfenenkdhlaaMapT
import Derived.Test.YtcgcfenenkdhlaaSortI
namespace Go.Proofs.Ytcgcfenenkdhlaa
open Go.RowKit Go.Maps Go.Sort Go.Shelf
set_option linter.unusedVariables false
set_option linter.unusedSimpArgs false
attribute [local go_sem] Oper.semAt_some

theorem lk_mem (l : List (Int × Int)) (k v : Int) (h : lk l k = some v) : (k, v) ∈ l := by
  induction l using snocInd with
  | nil => simp [lk] at h
  | snoc l e ih =>
    rw [lk_snoc] at h
    split at h
    · rename_i he; simp at h; rw [List.mem_append]; right; simp; rw [← he, ← h]
    · exact List.mem_append_left _ (ih h)
theorem AllF.le {zs ps : List (Int × Int)} (h : AllF (lk zs) ps) : ps.length ≤ zs.length :=
  nodup_subset_length (nodup_of_keys h.1) fun p hp => lk_mem zs p.1 p.2 ((h.2 p.1 p.2).1 hp)
theorem own_not_deferred {w : World} {base : Nat} {e : TypeId} {sz : Nat} {v : Value} {n : Nat} {xs : List Value} (h : w.ownsRow base e sz v n xs) {D : Nat} {d : Option (List Deferred)} (hK : w.heap[D]? = some (.deferred d)) : some D ≠ v.ownBlock := by
  rcases h.2 with ⟨rfl, _⟩ | ⟨g, cap, cur, rfl, _, hgb, _⟩
  · simp [Value.ownBlock]
  · intro e
    simp [Value.ownBlock] at e
    subst e
    rw [hK] at hgb
    cases hgb
theorem sortIntsOwn (base : Nat) (A : Option Addr) (n c : Nat) (zs : List Int) (w : World) (h : w.ownsRow base 3 1 (.slice A n c) n (ints zs)) (hn : n < 4611686018427387904) :
    Calls Try.prog 40 #[.slice A n c] w fun e w' => e = .returned (.tuple #[]) ∧ w'.ownsRow base 3 1 (.slice A n c) n (ints (srt zs)) ∧ w.grownBy w' (Value.slice A n c).ownBlock := by
  have hzl : zs.length = n := by have := h.1; simpa using this
  subst hzl
  rcases h.2 with ⟨hv, h0⟩ | ⟨g, cap, cur, hv, hbase, hheap, hnc, hcm, hcs, htk⟩
  · have hz : zs = [] := List.eq_nil_of_length_eq_zero h0
    subst hz
    refine (Try.sort_Ints_none A c w).mono ?_
    rintro e w' ⟨rfl, rfl⟩
    rw [show srt [] = [] by simp [srt]]
    exact ⟨rfl, h, ⟨rfl, rfl, rfl, Nat.le_refl _, fun _ _ _ => rfl⟩⟩
  · injection hv with h1 _ h3
    subst h1
    subst h3
    rw [Nat.mul_one] at htk
    refine (Try.sort_Ints g 0 c zs w (holds_of_blockI hheap htk) (Array.getElem?_eq_some_iff.1 hheap).1 hn).mono ?_
    rintro e w' ⟨rfl, k, os, rfl⟩
    exact ⟨rfl, ownsRow_sortedI (srt_length zs) hbase hheap hnc hcm hcs, grownBy_sortedI _⟩

set_option maxRecDepth 100000 in
set_option maxHeartbeats 2000000 in
theorem implMapKeys (a : Option Addr) (len cap : Nat) (zs : List (Int × Int)) (hreach : len * 16 ≤ 140737488351232) (hf : WF zs) (w : World) (hI : Rd w w.heap.size 2 a len (pairs zs)) :
    Calls Try.prog 17 #[.slice a len cap] w fun e W' => ∃ A' m c' ps, e = .returned (.slice A' m c') ∧ W'.ownsRow w.heap.size 3 1 (.slice A' m c') m (ints (srt (ps.map (·.1)))) ∧ AllF (lk zs) ps ∧ ps.length = m ∧ m ≤ len ∧ Below w.heap.size w W' := by
  refine (callsIn_wide (n := 3)).1 ?_
  have HF := hide hf
  clear hf
  obtain ⟨i0, hi, hz0, hz1, hz2⟩ := info_parts infoInt
  refine callsIn_of_wp_marks Try.func17 rfl trivial ?_ rfl
  simp only [Try.ntmps17, List.size_toArray, List.length_cons, List.length_nil, Nat.reduceAdd, Nat.reduceSub, Array.replicate_succ, Array.replicate_zero, List.push_toArray, List.append_toArray, List.nil_append, List.cons_append]
  gi_wp2_with (first
    | (refine ⟨trivial, ?_⟩; gi_at_call 36; refine (callsIn_wide.2 (implTable a len cap zs hreach HF.out _ ((hI.alloc (Nat.le_refl _) _).more (by simp)))).mono ?_; rintro e w1 ⟨rfl, hm, hB1⟩)
    | (refine ⟨trivial, ?_⟩; gi_at_call 39; refine (mkeys_in _ _ _).mono ?_; rintro e w2 ⟨rfl, rfl⟩))
  obtain ⟨w0, hw0⟩ : ∃ w0, w0 = w.alloc (.cells #[.slice none 0 0] 24) := ⟨_, rfl⟩
  have bO : Boxed w0 w.heap.size 24 (.slice none 0 0) := by rw [hw0]; exact Boxed.new w 24 (.slice none 0 0)
  have hBw : Below w.heap.size w w0 := by rw [hw0]; exact (Below.refl _ w).alloc (Nat.le_refl _) _
  rw [← hw0] at hB1
  simp only [World.size_alloc] at hm hB1
  have hs0 : w0.heap.size = w.heap.size + 1 := by rw [hw0]; simp
  try rw [hs0] at hB1
  clear hw0
  have hbd := hm.size_le
  have hml := hm.lt
  have bO1 : Boxed w1 w.heap.size 24 (.slice none 0 0) := (hB1.block _ (by omega)).trans bO
  have bN := Boxed.new w1 47 (.map (some (w.heap.size + 1)))
  have hB0 : Below w.heap.size w (w1.alloc (.cells #[.map (some (w.heap.size + 1))] 47)) := hBw.trans ((hB1.mono (by omega)).alloc (by have := hB1.size; omega) _)
  have hsz := hB1.size
  refine wpIn_rangeFunc_ownG rfl (by decide) (gf := 57) (lb := #[.pointer (some ⟨w1.heap.size, 0, none⟩)]) rfl trivial (enters_of Try.func57 (by kernel_rfl) rfl)
    (mkeys_stops 2 (by decide) w1.heap.size (w.heap.size + 1) len (mp zs) (w1.alloc (.cells #[.map (some (w.heap.size + 1))] 47)) (by simp) bN.cell (hm.alloc _)) walksK_t walksK_b (Below.refl _ _) (fun _ => rfl)
    (fun pre W => (∃ v, Boxed W w.heap.size 24 v ∧ W.ownsRow w.heap.size 3 1 v pre.length (ints pre) ∧ True) ∧ Below w.heap.size w W) (fun _ _ _ => False)
    (OwnFrom.and (Own.from (holdsRow_own w.heap.size w.heap.size 24 3 1 (fun pre => pre.length) (fun pre => ints pre) (fun _ _ => True)) _) (ownFrom_below (by omega) (by simp; omega)))
    (fun _ _ _ _ _ h _ _ => h)
    ⟨⟨_, bO1.alloc _, World.ownsRow_nil _ _ _ _, trivial⟩, hB0⟩
    (fun x => { tmps := #[.slice a len cap, undef, .slice none 0 0, .pointer (some ⟨w.heap.size, 0, none⟩), .int .i64 x, .slice a len cap, .map (some (w.heap.size + 1)), .func (.func 57) #[] #[.pointer (some ⟨w1.heap.size, 0, none⟩)], .int .i64 x, undef, undef, undef, undef, undef, undef, undef], defers := [] }) ?assign ?body ?done ?stop
  case assign =>
    intro l x W K hK
    gi_wp2
    exact hK
  case body =>
    rintro l pre x W ⟨⟨v, hv, hrow, _⟩, hB⟩ hlt
    obtain ⟨A', c', rfl⟩ := own_slice hrow
    have hc := hv.cell
    gi_wp2_with (gi_at_builtin; go_must (refine wpListIn_append_own _ rfl _ _ 24 rfl w.heap.size 3 i0 (.int .i64 0) 1 8 Try.underlying24 hi hz0 hz1 hz2 rfl (by decide) _ _ _ rfl (hrow.alloc _) ⟨W.heap.size, 0, none⟩ 1 1 [.int .i64 x] rfl rfl (cell_one_new _ _ _) (by simp [Value.oneCell']) (by unfold maxLen; omega) (by omega) (by have := hB.size; simp; omega) ?_); intro v' w2 hown' hgrow _; obtain ⟨g', cap', rfl⟩ := ownsRow_succ hown'; obtain ⟨hv1, hv2, hr2, hk2, hb2⟩ := hv.appended (by decide) hrow (by have := hB.size; omega) (Nat.le_refl _) hown' hgrow; have hc1 := hv1.cell; have hf1 := hv1.frozen)
    exact ⟨hk2.from _, hk2.walks, ⟨_, hv2, by simpa using hr2, trivial⟩, hB.trans hb2⟩
  case done =>
    rintro D ys W hD ⟨ps, hps, rfl⟩ ⟨⟨v, hv, hrow, _⟩, hB⟩ hK
    have hall : AllF (lk zs) ps := (reads_mp zs).allF hps.1 hps.2.1 hps.2.2
    have hle : ps.length ≤ len := by have h1 := hall.le; have h2 := hI.1; rw [pairs_length] at h2; omega
    rw [List.length_map] at hrow
    obtain ⟨A', c', rfl⟩ := own_slice hrow
    have hc := hv.cell
    gi_wp2_with (refine ⟨trivial, ?_⟩; gi_at_call 40; refine (callsIn_wide.2 (sortIntsOwn w.heap.size A' ps.length c' _ W hrow (by omega))).mono ?_; rintro e w3 ⟨rfl, ho3, hg3⟩; have hv3 := hv.kept hg3 (hv.not_row (by decide) hrow); have hc3 := hv3.cell)
    have hn3 : w3.heap[D]? = some (.deferred (some [])) := (hg3.block D (Array.getElem?_eq_some_iff.1 hK).1 (own_not_deferred hrow hK)).trans hK
    refine ⟨by simp, .inl ⟨_, _, rfl, run_takeDeferred hn3, ?_⟩⟩
    refine ⟨_, results_tmp rfl _ _ _, A', ps.length, c', ps, rfl, own_base (ownsRow_putObj ho3 _ hn3 rfl) (Nat.le_refl _), hall, rfl, hle, ?_⟩
    exact (below_grown_own hB hB.size (Nat.le_refl _) hrow hg3).trans (belowK_b (w := w) (Nat.le_refl _) w3 D _ _ (by simp at hD; omega) hn3 rfl rfl)
  case stop =>
    rintro D c pre W _ _ h _
    exact h.elim

set_option maxRecDepth 100000 in
set_option maxHeartbeats 2000000 in
theorem implMapValues (a : Option Addr) (len cap : Nat) (zs : List (Int × Int)) (hreach : len * 16 ≤ 140737488351232) (hf : WF zs) (w : World) (hI : Rd w w.heap.size 2 a len (pairs zs)) :
    Calls Try.prog 22 #[.slice a len cap] w fun e W' => ∃ A' m c' ps, e = .returned (.slice A' m c') ∧ W'.ownsRow w.heap.size 3 1 (.slice A' m c') m (ints (srt (ps.map (·.2)))) ∧ AllF (lk zs) ps ∧ ps.length = m ∧ m ≤ len ∧ Below w.heap.size w W' := by
  refine (callsIn_wide (n := 3)).1 ?_
  have HF := hide hf
  clear hf
  obtain ⟨i0, hi, hz0, hz1, hz2⟩ := info_parts infoInt
  refine callsIn_of_wp_marks Try.func22 rfl trivial ?_ rfl
  simp only [Try.ntmps22, List.size_toArray, List.length_cons, List.length_nil, Nat.reduceAdd, Nat.reduceSub, Array.replicate_succ, Array.replicate_zero, List.push_toArray, List.append_toArray, List.nil_append, List.cons_append]
  gi_wp2_with (first
    | (refine ⟨trivial, ?_⟩; gi_at_call 36; refine (callsIn_wide.2 (implTable a len cap zs hreach HF.out _ ((hI.alloc (Nat.le_refl _) _).more (by simp)))).mono ?_; rintro e w1 ⟨rfl, hm, hB1⟩)
    | (refine ⟨trivial, ?_⟩; gi_at_call 43; refine (mvals_in _ _ _).mono ?_; rintro e w2 ⟨rfl, rfl⟩))
  obtain ⟨w0, hw0⟩ : ∃ w0, w0 = w.alloc (.cells #[.slice none 0 0] 24) := ⟨_, rfl⟩
  have bO : Boxed w0 w.heap.size 24 (.slice none 0 0) := by rw [hw0]; exact Boxed.new w 24 (.slice none 0 0)
  have hBw : Below w.heap.size w w0 := by rw [hw0]; exact (Below.refl _ w).alloc (Nat.le_refl _) _
  rw [← hw0] at hB1
  simp only [World.size_alloc] at hm hB1
  have hs0 : w0.heap.size = w.heap.size + 1 := by rw [hw0]; simp
  try rw [hs0] at hB1
  clear hw0
  have hbd := hm.size_le
  have hml := hm.lt
  have bO1 : Boxed w1 w.heap.size 24 (.slice none 0 0) := (hB1.block _ (by omega)).trans bO
  have bN := Boxed.new w1 47 (.map (some (w.heap.size + 1)))
  have hB0 : Below w.heap.size w (w1.alloc (.cells #[.map (some (w.heap.size + 1))] 47)) := hBw.trans ((hB1.mono (by omega)).alloc (by have := hB1.size; omega) _)
  have hsz := hB1.size
  refine wpIn_rangeFunc_ownG rfl (by decide) (gf := 61) (lb := #[.pointer (some ⟨w1.heap.size, 0, none⟩)]) rfl trivial (enters_of Try.func61 (by kernel_rfl) rfl)
    (mvals_stops 2 (by decide) w1.heap.size (w.heap.size + 1) len (mp zs) (w1.alloc (.cells #[.map (some (w.heap.size + 1))] 47)) (by simp) bN.cell (hm.alloc _)) walksK_t walksK_b (Below.refl _ _) (fun _ => rfl)
    (fun pre W => (∃ v, Boxed W w.heap.size 24 v ∧ W.ownsRow w.heap.size 3 1 v pre.length (ints pre) ∧ True) ∧ Below w.heap.size w W) (fun _ _ _ => False)
    (OwnFrom.and (Own.from (holdsRow_own w.heap.size w.heap.size 24 3 1 (fun pre => pre.length) (fun pre => ints pre) (fun _ _ => True)) _) (ownFrom_below (by omega) (by simp; omega)))
    (fun _ _ _ _ _ h _ _ => h)
    ⟨⟨_, bO1.alloc _, World.ownsRow_nil _ _ _ _, trivial⟩, hB0⟩
    (fun x => { tmps := #[.slice a len cap, undef, .slice none 0 0, .pointer (some ⟨w.heap.size, 0, none⟩), .int .i64 x, .slice a len cap, .map (some (w.heap.size + 1)), .func (.func 61) #[] #[.pointer (some ⟨w1.heap.size, 0, none⟩)], .int .i64 x, undef, undef, undef, undef, undef, undef, undef], defers := [] }) ?assign ?body ?done ?stop
  case assign =>
    intro l x W K hK
    gi_wp2
    exact hK
  case body =>
    rintro l pre x W ⟨⟨v, hv, hrow, _⟩, hB⟩ hlt
    obtain ⟨A', c', rfl⟩ := own_slice hrow
    have hc := hv.cell
    gi_wp2_with (gi_at_builtin; go_must (refine wpListIn_append_own _ rfl _ _ 24 rfl w.heap.size 3 i0 (.int .i64 0) 1 8 Try.underlying24 hi hz0 hz1 hz2 rfl (by decide) _ _ _ rfl (hrow.alloc _) ⟨W.heap.size, 0, none⟩ 1 1 [.int .i64 x] rfl rfl (cell_one_new _ _ _) (by simp [Value.oneCell']) (by unfold maxLen; omega) (by omega) (by have := hB.size; simp; omega) ?_); intro v' w2 hown' hgrow _; obtain ⟨g', cap', rfl⟩ := ownsRow_succ hown'; obtain ⟨hv1, hv2, hr2, hk2, hb2⟩ := hv.appended (by decide) hrow (by have := hB.size; omega) (Nat.le_refl _) hown' hgrow; have hc1 := hv1.cell; have hf1 := hv1.frozen)
    exact ⟨hk2.from _, hk2.walks, ⟨_, hv2, by simpa using hr2, trivial⟩, hB.trans hb2⟩
  case done =>
    rintro D ys W hD ⟨ps, hps, rfl⟩ ⟨⟨v, hv, hrow, _⟩, hB⟩ hK
    have hall : AllF (lk zs) ps := (reads_mp zs).allF hps.1 hps.2.1 hps.2.2
    have hle : ps.length ≤ len := by have h1 := hall.le; have h2 := hI.1; rw [pairs_length] at h2; omega
    rw [List.length_map] at hrow
    obtain ⟨A', c', rfl⟩ := own_slice hrow
    have hc := hv.cell
    gi_wp2_with (refine ⟨trivial, ?_⟩; gi_at_call 40; refine (callsIn_wide.2 (sortIntsOwn w.heap.size A' ps.length c' _ W hrow (by omega))).mono ?_; rintro e w3 ⟨rfl, ho3, hg3⟩; have hv3 := hv.kept hg3 (hv.not_row (by decide) hrow); have hc3 := hv3.cell)
    have hn3 : w3.heap[D]? = some (.deferred (some [])) := (hg3.block D (Array.getElem?_eq_some_iff.1 hK).1 (own_not_deferred hrow hK)).trans hK
    refine ⟨by simp, .inl ⟨_, _, rfl, run_takeDeferred hn3, ?_⟩⟩
    refine ⟨_, results_tmp rfl _ _ _, A', ps.length, c', ps, rfl, own_base (ownsRow_putObj ho3 _ hn3 rfl) (Nat.le_refl _), hall, rfl, hle, ?_⟩
    exact (below_grown_own hB hB.size (Nat.le_refl _) hrow hg3).trans (belowK_b (w := w) (Nat.le_refl _) w3 D _ _ (by simp at hD; omega) hn3 rfl rfl)
  case stop =>
    rintro D c pre W _ _ h _
    exact h.elim
end Go.Proofs.Ytcgcfenenkdhlaa
