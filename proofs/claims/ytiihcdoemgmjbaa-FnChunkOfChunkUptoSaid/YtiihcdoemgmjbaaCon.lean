/-
  slices.Grow at nil, slices.Concat, impl.Concat, spec.Concat.
-/
import Derived.WalkKit
import Derived.WalkSpells
import Derived.WalkLawsBesides
import Derived.Outline
import Derived.Deep.DeepMust
import Derived.Maps.AppendAt
import Derived.Lib.AppendZeros
import Derived.Test.YtiihcdoemgmjbaaSpec
import Derived.Test.YtiihcdoemgmjbaaAppR
namespace Go.Proofs.Ytiihcdoemgmjbaa
open Go.RowKit
set_option linter.unusedVariables false
set_option linter.unusedSimpArgs false

set_option maxRecDepth 100000 in
set_option maxHeartbeats 1000000 in
theorem growNone (w : World) : Calls Try.prog 40 #[.slice none 0 0, .int .i64 0] w fun e w' => e = .returned (.slice none 0 0) ∧ w = w' := by
  go_enter Try.func40, Try.ntmps40
  go_wp2
  go_ret
  exact ⟨rfl, rfl⟩
set_option maxRecDepth 100000 in
set_option maxHeartbeats 1000000 in
theorem growSome (n : Nat) (h0 : 0 < n) (hb : n * 8 ≤ 140737488351232) (w : World) : Calls Try.prog 40 #[.slice none 0 0, .int .i64 n] w fun e w' => ∃ cap, e = .returned (.slice (some ⟨w.heap.size, 0, none⟩) 0 cap) ∧ w'.ownsRow w.heap.size 3 1 (.slice (some ⟨w.heap.size, 0, none⟩) 0 cap) 0 [] ∧ Below w.heap.size w w' := by
  obtain ⟨i0, hi, hz0, hz1, hz2⟩ := info_parts infoInt
  have hrun := Lib.run_append_nil_zeros (P := Try.prog) w 22 3 22 3 i0 (.int .i64 0) .i64 .i64 Try.underlying22 Try.underlying3 hi hz0 n h0 (by rw [hz1]; decide) (by omega) (by rw [hz2]; omega)
  have hcap := grownCap_ge w n 0 3
  have hcm := grownCap_le_maxLen w n 0 3 (by unfold maxLen; omega)
  obtain ⟨cap, hc⟩ : ∃ cap, grownCap w n 0 3 = cap := ⟨_, rfl⟩
  rw [hc] at hrun hcap hcm
  obtain ⟨cur, hcur⟩ : ∃ cur, Builtin.zeroCells (Value.int .i64 0).cells n ++ Builtin.zeroCells (Value.int .i64 0).cells (cap - n) = cur := ⟨_, rfl⟩
  have hsz : cur.size = cap * 1 := by rw [← hcur]; simp [size_zeroCells, Value.cells]; omega
  rw [hcur] at hrun
  have HR := hide hrun
  have HS := hide hsz
  clear hrun hcur hc hsz
  unfold maxLen at hcm
  go_enter Try.func40, Try.ntmps40
  go_wp2_with (at_builtin; go_must (refine Lib.wpList_append_run _ rfl _ _ _ _ rfl _ _ rfl rfl _ _ HR.out ?_))
  go_ret
  exact ⟨cap, rfl, own_drew (World.ownsRow_made w cur cap (Nat.le_refl _) (by unfold maxLen; omega) HS.out) (Drew.drewN (Drew.refl _) 1), ((Below.refl _ w).alloc (Nat.le_refl _) _).drew⟩

/-- what Grow hands to Concat: nil where nothing is to come, else an empty row of its own -/
theorem growAny (n : Nat) (hb : n * 8 ≤ 140737488351232) (w : World) : Calls Try.prog 40 #[.slice none 0 0, .int .i64 n] w fun e w' => ∃ v, e = .returned v ∧ w'.ownsRow w.heap.size 3 1 v 0 [] ∧ (v = .slice none 0 0 ↔ n = 0) ∧ Below w.heap.size w w' := by
  by_cases h0 : 0 < n
  · exact (growSome n h0 hb w).mono fun e w' ⟨cap, he, ho, hbl⟩ => ⟨_, he, ho, by simp; omega, hbl⟩
  · obtain rfl : n = 0 := by omega
    exact (growNone w).mono fun e w' ⟨he, hw⟩ => ⟨_, he, World.ownsRow_nil _ _ _ _, by simp, by rw [← hw]; exact Below.refl _ _⟩
theorem own_isNone {w : World} {base : Nat} {e : TypeId} {sz n : Nat} {A : Option Addr} {c : Nat} {xs : List Value} (h : w.ownsRow base e sz (.slice A n c) n xs) : A.isNone = true ↔ Value.slice A n c = .slice none 0 0 := by
  rcases h.2 with ⟨hv, h0⟩ | ⟨g, cap, cur, hv, _⟩
  · injection hv with h1 h2 h3; subst h1; subst h2; subst h3; simp
  · injection hv with h1 h2 h3; subst h1; simp

set_option maxRecDepth 100000 in
set_option maxHeartbeats 4000000 in
theorem slicesConcat (a : Option Addr) (n c : Nat) (rs : List (Option Addr × Nat × Nat)) (zz : List (List Int)) (hn : n ≤ 4194304) (hb : zz.flatten.length * 8 ≤ 140737488351232) (w : World) (hr : Rd w w.heap.size 1 a n (rows rs)) (hq : RowsRd w w.heap.size rs zz) :
    Calls Try.prog 33 #[.slice a n c] w fun e w' => ∃ A' c', e = .returned (.slice A' zz.flatten.length c') ∧ w'.ownsRow w.heap.size 3 1 (.slice A' zz.flatten.length c') zz.flatten.length (ints zz.flatten) ∧ (A'.isNone = decide (zz.flatten = [])) ∧ Below w.heap.size w w' := by
  have hrl : zz.length = n := by have h1 := hr.1; have h2 := hq.1; rw [rows_length] at h1; omega
  have HL := hide hrl
  clear hrl
  obtain ⟨N, hN⟩ : ∃ N, zz.flatten.length = N := ⟨_, rfl⟩
  have hle : ∀ k, (zz.take k).flatten.length ≤ N := fun k => by rw [← hN]; exact flatten_take_le zz k
  have hdN : decide (zz.flatten = []) = decide (N = 0) := by rw [← hN]; cases zz.flatten <;> simp
  rw [hN] at hb ⊢
  rw [hdN]
  have HN := hide hN
  have HLE := hide hle
  clear hN hdN hle
  obtain ⟨i0, hi, hz0, hz1, hz2⟩ := info_parts infoInt
  go_enter Try.func33, Try.ntmps33
  go_wp2
  go_loop [3, 11] (fun s i => ∃ k S : Nat, k ≤ n ∧ S ≤ N ∧ i = .int .i64 k ∧ s = .int .i64 S ∧ (zz.take k).flatten.length = S) (fun _ i => n - (intOf i).toNat)
  case atStart => exact ⟨0, 0, Nat.zero_le _, Nat.zero_le _, rfl, rfl, by simp⟩
  case round =>
    obtain ⟨k, S, hk, hS, rfl, rfl, hkS⟩ := hrel
    have HKS := hide hkS
    clear hkS
    by_cases hlt : k < n
    · obtain ⟨b, off, A', m, c', z, rfl, hbb, hrk, hzk, hcell, hrd⟩ := hq.at_ hr hlt
      have hzl : z.length = m := by have := hrd.1; simpa using this
      have hsm : S + m ≤ N := by
        have h1 := HLE.out (k + 1)
        rw [flatten_snoc hzk.out, List.length_append, HKS.out, hzl] at h1
        exact h1
      have hlen : (zz.take (k + 1)).flatten.length = S + m := by rw [flatten_snoc hzk.out, List.length_append, HKS.out, hzl]
      have HLEN := hide hlen
      clear hlen hzl
      go_wp2
      go_round
      case rel => exact ⟨k + 1, S + m, by omega, by omega, by go_num, by go_num, HLEN.out⟩
      case measure => simp [intOf]; omega
    · obtain rfl : k = n := by omega
      have hSN : S = N := by
        have h := HKS.out
        rw [List.take_of_length_le (by rw [HL.out]; exact Nat.le_refl _)] at h
        rw [← h, HN.out]
      subst hSN
      clear HKS
      go_wp2_with fail
      refine (growAny S hb w).mono ?_
      rintro e w1 ⟨v1, rfl, own1, hnil1, hb1⟩
      have hs1 := hb1.size
      have HNIL := hide hnil1
      clear hnil1
      go_wp2_with fail
      go_loopw [6, 27] (fun v i wr => ∃ j T : Nat, j ≤ k ∧ T ≤ S ∧ i = .int .i64 j ∧ wr.ownsRow w.heap.size 3 1 v T (ints (zz.take j).flatten) ∧ Hid ((zz.take j).flatten.length = T) ∧ Hid (v = .slice none 0 0 ↔ S = 0) ∧ Below w.heap.size w wr) (fun _ i _ => k - (intOf i).toNat)
      case atStart => exact ⟨0, 0, Nat.zero_le _, Nat.zero_le _, rfl, own1, by simp [Hid], HNIL, hb1⟩
      case round =>
        obtain ⟨j, T, hj, hT, rfl, hown, hTl, hnil, hB⟩ := hrel
        have hsz := hB.size
        clear HNIL own1
        by_cases hlt2 : j < k
        · obtain ⟨b, off, A', m, c', z, rfl, hbb, hrk, hzk, hcell, hrd⟩ := (hq.below hB).at_ (hr.below hB) hlt2
          have hzl : z.length = m := by have := hrd.1; simpa using this
          have hlen : (zz.take (j + 1)).flatten.length = T + m := by rw [flatten_snoc hzk.out, List.length_append, hTl.out, hzl]
          have hsm : T + m ≤ S := by rw [← hlen]; exact HLE.out (j + 1)
          have HLEN := hide hlen
          clear hlen hzl
          go_wp2_with (at_builtin; go_must (refine wpList_append_rd _ rfl _ _ 22 rfl w.heap.size 3 i0 (.int .i64 0) 1 8 Try.underlying22 hi hz0 hz1 hz2 rfl (by decide) _ T _ rfl hown w.heap.size A' m c' _ rfl hrd (ints_one _) (by unfold maxLen; omega) (by omega) hsz ?_); intro v2 w2 own2 hg2 hn2; have HN2 := hide hn2; clear hn2)
          go_roundw
          case rel => exact ⟨j + 1, T + m, by omega, by omega, by go_num, by rw [flatten_snoc hzk.out, ints, List.map_append]; exact own2, HLEN, (HN2.out).trans ⟨fun h => hnil.out.1 h.1, fun h => ⟨hnil.out.2 h, by omega⟩⟩, below_grown_own hB hsz (Nat.le_refl _) hown hg2⟩
          case measure => simp [intOf]; omega
        · obtain rfl : j = k := by omega
          rw [List.take_of_length_le (by rw [HL.out]; exact Nat.le_refl _)] at hown hTl
          have hTS : T = S := by rw [← hTl.out, HN.out]
          subst hTS
          obtain ⟨A2, c2, rfl⟩ := own_slice hown
          have hfin : A2.isNone = decide (T = 0) := by rw [Bool.eq_iff_iff, own_isNone hown, hnil.out]; simp
          have HF := hide hfin
          clear hfin
          go_wp2
          go_ret
          exact ⟨A2, c2, rfl, by first | exact hown | simpa [ints] using hown, HF.out, hB⟩

set_option maxHeartbeats 1000000 in
theorem implConcat (a : Option Addr) (n c : Nat) (rs : List (Option Addr × Nat × Nat)) (zz : List (List Int)) (hn : n ≤ 4194304) (hb : zz.flatten.length * 8 ≤ 140737488351232) (w : World) (hr : Rd w w.heap.size 1 a n (rows rs)) (hq : RowsRd w w.heap.size rs zz) :
    Calls Try.prog 22 #[.slice a n c] w fun e w' => ∃ A' c', e = .returned (.tuple #[.slice A' zz.flatten.length c', .bool (decide (zz.flatten = []))]) ∧ w'.ownsRow w.heap.size 3 1 (.slice A' zz.flatten.length c') zz.flatten.length (ints zz.flatten) ∧ Below w.heap.size w w' := by
  have hnil := fun (w : World) (a : Option Addr) (n c : Nat) => Lib.run_eql_slice_nil (P := Try.prog) w 22 3 a n c 0 0 Try.underlying22
  have hc := slicesConcat a n c rs zz hn hb w hr hq
  obtain ⟨F, hF⟩ : ∃ F, zz.flatten = F := ⟨_, rfl⟩
  rw [hF] at hc ⊢
  have HC := hide hc
  clear hc hF hb
  go_enter Try.func22, Try.ntmps22
  go_wp2_with fail
  refine (unhide HC).mono ?_
  rintro e w1 ⟨A1, c1, rfl, own1, hn1, hb1⟩
  have HN := hide hn1
  have HO := hide own1
  clear hn1 own1
  go_wp2
  go_ret2
  exact ⟨A1, c1, by rw [← HN.out]; rfl, HO.out, hb1⟩

/-- the same, the list and its length under names of their own -/
theorem implConcatN (a : Option Addr) (n c : Nat) (rs : List (Option Addr × Nat × Nat)) (zz : List (List Int)) (F : List Int) (N : Nat) (hF : zz.flatten = F) (hN : F.length = N) (hn : n ≤ 4194304) (hb : N * 8 ≤ 140737488351232) (w : World) (hr : Rd w w.heap.size 1 a n (rows rs)) (hq : RowsRd w w.heap.size rs zz) :
    Calls Try.prog 22 #[.slice a n c] w fun e w' => ∃ A' c' f, e = .returned (.tuple #[.slice A' N c', .bool f]) ∧ w'.ownsRow w.heap.size 3 1 (.slice A' N c') N (ints F) ∧ Below w.heap.size w w' := by
  subst hF; subst hN
  exact (implConcat a n c rs zz hn hb w hr hq).mono fun e w' ⟨A', c', he, ho, hbl⟩ => ⟨A', c', _, he, ho, hbl⟩

end Go.Proofs.Ytiihcdoemgmjbaa
