/-
  laws.table, laws.keys, laws.values.
-/
import Derived.Test.YtcgcfenenkdhlaaTab
namespace Go.Proofs.Ytcgcfenenkdhlaa
open Go.RowKit
set_option linter.unusedVariables false
set_option linter.unusedSimpArgs false

theorem cell_two_at (w : World) (n : Nat) (hn : w.heap.size = n) (a b : Value) (t : TypeId) : ∀ j u, [a, b][j]? = some u → (w.alloc (.cells #[a, b] t)).cell? ((⟨n, 0, none⟩ : Addr).add j) = some u := by
  subst hn; exact cell_two_new w a b t
theorem cell_one_at (w : World) (n : Nat) (hn : w.heap.size = n) (a : Value) (t : TypeId) : ∀ j u, [a][j]? = some u → (w.alloc (.cells #[a] t)).cell? ((⟨n, 0, none⟩ : Addr).add j) = some u := by
  subst hn; exact cell_one_new w a t
theorem infoIE : (Try.prog.info? 35).map (fun i => (i.zero, i.size, i.bytes)) = some (some (.agg #[.int .i64 0, .int .i64 0]), 2, 16) := by kernel_rfl

set_option maxRecDepth 100000 in
set_option maxHeartbeats 2000000 in
theorem lawsTable (A : Option Addr) (n c : Nat) (l : List (Int × Int)) (w : World) (hI : Rd w w.heap.size 2 A n (pairs l)) (hreach : n * 16 ≤ 140737488351232) :
    Calls Try.prog 23 #[.slice A n c] w fun e w' => ∃ A' c' t, e = .returned (.slice A' t.length c') ∧ w'.ownsRow w.heap.size 35 2 (.slice A' t.length c') t.length (pairs t) ∧ Tab t (lk l) ∧ t.length ≤ n ∧ Below w.heap.size w w' := by
  have hl : l.length = n := by have := hI.1; rw [pairs_length] at this; omega
  subst hl
  obtain ⟨i0, hi, hz0, hz1, hz2⟩ := info_parts infoSE
  obtain ⟨i1, hj, hy0, hy1, hy2⟩ := info_parts infoIE
  go_enter Try.func23, Try.ntmps23
  go_wp2
  go_loopw [3, 11] (fun v i wr => ∃ k : Nat, k ≤ l.length ∧ i = .int .i64 k ∧ wr.ownsRow w.heap.size 58 2 v k (pairs (l.take k)) ∧ Below w.heap.size w wr) (fun _ i _ => l.length - (RowKit.intOf i).toNat)
  case atStart => exact ⟨0, Nat.zero_le _, rfl, World.ownsRow_nil _ _ _ _, Below.refl _ _⟩
  case round =>
    obtain ⟨k, hk, rfl, hown, hB⟩ := hrel
    have hsz := hB.size
    by_cases hlt : k < l.length
    · obtain ⟨b, off, x, y, rfl, hb, hx, hc1, hc2⟩ := (hI.below hB).pair hlt
      obtain ⟨A', c', rfl⟩ := own_slice hown
      go_wp2_with (at_builtin; go_must (refine wpList_append_own _ rfl _ _ 57 rfl w.heap.size 58 i0 (.agg #[.int .i64 0, .int .i64 0]) 2 16 Try.underlying57 hi hz0 hz1 hz2 rfl (by decide) _ _ _ rfl ((hown.alloc _).alloc _) ⟨wr.heap.size + 1, 0, none⟩ 1 1 [.int .i64 x, .int .i64 y] rfl rfl (cell_two_at _ _ (by simp) _ _ _) (by simp [Value.oneCell']) (by unfold maxLen; omega) (by omega) (by simp; omega) ?_); intro v' w2 hown' hgrow _)
      have hb2 := below_append (hB.alloc hsz _) (by simp; omega) (Nat.le_refl _) (hown.alloc _) hgrow
      go_roundw
      case rel => exact ⟨k + 1, by omega, by go_num, by rw [pairs_snoc hx.out]; exact hown', hb2⟩
      case measure => simp [RowKit.intOf]; omega
    · obtain rfl : k = l.length := by omega
      obtain ⟨A', c', rfl⟩ := own_slice hown
      rw [List.take_length] at hown
      have hcap : l.length ≤ c' := by
        rcases hown.2 with ⟨hv, h0⟩ | ⟨g, cap, cur, hv, _, _, hnc, _⟩
        · omega
        · injection hv with _ _ h3; omega
      obtain ⟨wR, hwR⟩ : ∃ w0 : World, w0 = wr := ⟨_, rfl⟩
      rw [← hwR] at hown hB hsz ⊢
      clear hwR
      have HT := hide (specTable A' l.length c' l hreach hcap wR (Rd.of_own hown))
      clear hown
      go_wp2_with fail
      refine HT.out.mono ?_
      rintro e w3 ⟨A3, c3, t, rfl, own3, htab, htl, hB3⟩
      have HTab := hide htab
      clear htab HT
      have hBw : Below w.heap.size w w3 := hB.trans (hB3.mono hsz)
      have hsw := hBw.size
      have hrd3 := Rd.of_own own3
      clear own3
      go_wp2_with fail
      go_loopw [6, 23] (fun v i wr => ∃ k : Nat, k ≤ t.length ∧ i = .int .i64 k ∧ wr.ownsRow w3.heap.size 35 2 v k (pairs (t.take k)) ∧ Below w3.heap.size w3 wr) (fun _ i _ => t.length - (RowKit.intOf i).toNat)
      case atStart => exact ⟨0, Nat.zero_le _, rfl, World.ownsRow_nil _ _ _ _, Below.refl _ _⟩
      case round =>
        obtain ⟨k, hk, rfl, hown, hB⟩ := hrel
        have hsz := hB.size
        by_cases hlt : k < t.length
        · obtain ⟨b, off, x, y, rfl, hb, hx, hc1, hc2⟩ := (hrd3.below hB).pair hlt
          obtain ⟨A', c', rfl⟩ := own_slice hown
          go_wp2_with (at_builtin; go_must (refine wpList_append_own _ rfl _ _ 22 rfl w3.heap.size 35 i1 (.agg #[.int .i64 0, .int .i64 0]) 2 16 Try.underlying22 hj hy0 hy1 hy2 rfl (by decide) _ _ _ rfl ((hown.alloc _).alloc _) ⟨wr.heap.size + 1, 0, none⟩ 1 1 [.int .i64 x, .int .i64 y] rfl rfl (cell_two_at _ _ (by simp) _ _ _) (by simp [Value.oneCell']) (by unfold maxLen; omega) (by omega) (by simp; omega) ?_); intro v' w2 hown' hgrow _)
          have hb2 := below_append (hB.alloc hsz _) (by simp; omega) (Nat.le_refl _) (hown.alloc _) hgrow
          go_roundw
          case rel => exact ⟨k + 1, by omega, by go_num, by rw [pairs_snoc hx.out]; exact hown', hb2⟩
          case measure => simp [RowKit.intOf]; omega
        · obtain rfl : k = t.length := by omega
          obtain ⟨A', c', rfl⟩ := own_slice hown
          rw [List.take_length] at hown
          go_wp2
          go_ret
          exact ⟨_, _, t, rfl, own_base hown hsw, HTab.out, htl, hBw.trans (hB.mono hsw)⟩

set_option maxRecDepth 100000 in
set_option maxHeartbeats 2000000 in
theorem laws_keys (A : Option Addr) (n c B : Nat) (l : List (Int × Int)) (w : World) (hI : Rd w B 2 A n (pairs l)) (hB0 : B ≤ w.heap.size) (hreach : n * 16 ≤ 140737488351232) :
    Calls Try.prog 21 #[.slice A n c] w fun e w' => ∃ A' c', e = .returned (.slice A' n c') ∧ w'.ownsRow w.heap.size 3 1 (.slice A' n c') n (ints (l.map (·.1))) ∧ Below w.heap.size w w' := by
  have hl : l.length = n := by have := hI.1; rw [pairs_length] at this; omega
  subst hl
  replace hI := hI.more hB0
  obtain ⟨i0, hi, hz0, hz1, hz2⟩ := info_parts infoInt
  go_enter Try.func21, Try.ntmps21
  go_wp2
  go_loopw [3, 8] (fun v i wr => ∃ k : Nat, k ≤ l.length ∧ i = .int .i64 k ∧ wr.ownsRow w.heap.size 3 1 v k (ints ((l.take k).map (·.1))) ∧ Below w.heap.size w wr) (fun _ i _ => l.length - (RowKit.intOf i).toNat)
  case atStart => exact ⟨0, Nat.zero_le _, rfl, World.ownsRow_nil _ _ _ _, Below.refl _ _⟩
  case round =>
    obtain ⟨k, hk, rfl, hown, hB⟩ := hrel
    have hsz := hB.size
    by_cases hlt : k < l.length
    · obtain ⟨b, off, x, y, rfl, hb, hx, hc1, hc2⟩ := (hI.below hB).pair hlt
      obtain ⟨A', c', rfl⟩ := own_slice hown
      go_wp2_with (at_builtin; go_must (refine wpList_append_own _ rfl _ _ 24 rfl w.heap.size 3 i0 (.int .i64 0) 1 8 Try.underlying24 hi hz0 hz1 hz2 rfl (by decide) _ _ _ rfl ((hown.alloc _).alloc _) ⟨wr.heap.size + 1, 0, none⟩ 1 1 [.int .i64 x] rfl rfl (cell_one_at _ _ (by simp) _ _) (by simp [Value.oneCell']) (by unfold maxLen; omega) (by omega) (by simp; omega) ?_); intro v' w2 hown' hgrow _)
      have hb2 := below_append (hB.alloc hsz _) (by simp; omega) (Nat.le_refl _) (hown.alloc _) hgrow
      go_roundw
      case rel => exact ⟨k + 1, by omega, by go_num, by rw [take_snoc' hx.out, List.map_append, ints, List.map_append]; exact hown', hb2⟩
      case measure => simp [RowKit.intOf]; omega
    · obtain rfl : k = l.length := by omega
      obtain ⟨A', c', rfl⟩ := own_slice hown
      rw [List.take_length] at hown
      go_wp2
      go_ret
      exact ⟨_, _, rfl, hown, hB⟩

set_option maxRecDepth 100000 in
set_option maxHeartbeats 2000000 in
theorem laws_values (A : Option Addr) (n c B : Nat) (l : List (Int × Int)) (w : World) (hI : Rd w B 2 A n (pairs l)) (hB0 : B ≤ w.heap.size) (hreach : n * 16 ≤ 140737488351232) :
    Calls Try.prog 19 #[.slice A n c] w fun e w' => ∃ A' c', e = .returned (.slice A' n c') ∧ w'.ownsRow w.heap.size 3 1 (.slice A' n c') n (ints (l.map (·.2))) ∧ Below w.heap.size w w' := by
  have hl : l.length = n := by have := hI.1; rw [pairs_length] at this; omega
  subst hl
  replace hI := hI.more hB0
  obtain ⟨i0, hi, hz0, hz1, hz2⟩ := info_parts infoInt
  go_enter Try.func19, Try.ntmps19
  go_wp2
  go_loopw [3, 8] (fun v i wr => ∃ k : Nat, k ≤ l.length ∧ i = .int .i64 k ∧ wr.ownsRow w.heap.size 3 1 v k (ints ((l.take k).map (·.2))) ∧ Below w.heap.size w wr) (fun _ i _ => l.length - (RowKit.intOf i).toNat)
  case atStart => exact ⟨0, Nat.zero_le _, rfl, World.ownsRow_nil _ _ _ _, Below.refl _ _⟩
  case round =>
    obtain ⟨k, hk, rfl, hown, hB⟩ := hrel
    have hsz := hB.size
    by_cases hlt : k < l.length
    · obtain ⟨b, off, x, y, rfl, hb, hx, hc1, hc2⟩ := (hI.below hB).pair hlt
      obtain ⟨A', c', rfl⟩ := own_slice hown
      go_wp2_with (at_builtin; go_must (refine wpList_append_own _ rfl _ _ 24 rfl w.heap.size 3 i0 (.int .i64 0) 1 8 Try.underlying24 hi hz0 hz1 hz2 rfl (by decide) _ _ _ rfl ((hown.alloc _).alloc _) ⟨wr.heap.size + 1, 0, none⟩ 1 1 [.int .i64 y] rfl rfl (cell_one_at _ _ (by simp) _ _) (by simp [Value.oneCell']) (by unfold maxLen; omega) (by omega) (by simp; omega) ?_); intro v' w2 hown' hgrow _)
      have hb2 := below_append (hB.alloc hsz _) (by simp; omega) (Nat.le_refl _) (hown.alloc _) hgrow
      go_roundw
      case rel => exact ⟨k + 1, by omega, by go_num, by rw [take_snoc' hx.out, List.map_append, ints, List.map_append]; exact hown', hb2⟩
      case measure => simp [RowKit.intOf]; omega
    · obtain rfl : k = l.length := by omega
      obtain ⟨A', c', rfl⟩ := own_slice hown
      rw [List.take_length] at hown
      go_wp2
      go_ret
      exact ⟨_, _, rfl, hown, hB⟩
end Go.Proofs.Ytcgcfenenkdhlaa
