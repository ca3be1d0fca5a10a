/-
  slices.Sort and slices.Sorted of strings; impl.SortedStrings.
-/
import Derived.Sort.OwnSorted
import Derived.Test.YthefajbahbmohaaShelf
import Derived.Test.YthefajbahbmohaaPlainS
import Derived.Test.YthefajbahbmohaaAppSS
import Derived.Test.YthefajbahbmohaaAppR
namespace Go.Proofs.Ythefajbahbmohaa
open Go.RowKit Go.Shelf Go.Sort
set_option linter.unusedVariables false
set_option linter.unusedSimpArgs false
attribute [local go_sem] Oper.semAt_some

theorem enc_bytes (x : ByteArray) : encStr (bytes x) = Value.string x := by
  cases x; simp [encStr, bytes]
theorem strs_enc (zs : List ByteArray) : (zs.map bytes).map encStr = strs zs := by
  rw [List.map_map, strs]
  exact List.map_congr_left fun x _ => enc_bytes x
theorem sortOwnS (base : Nat) (A : Option Addr) (n c : Nat) (zs : List ByteArray) (w : World) (h : w.ownsRow base 9 1 (.slice A n c) n (strs zs)) (hn : n < 4611686018427387904) :
    Calls Try.prog 42 #[.slice A n c] w fun e w' => e = .returned (.tuple #[]) ∧ w'.ownsRow base 9 1 (.slice A n c) n (strs (srtS zs)) ∧ w.grownBy w' (Value.slice A n c).ownBlock := by
  have hzl : zs.length = n := by have := h.1; simpa using this
  subst hzl
  rcases h.2 with ⟨hv, h0⟩ | ⟨g, cap, cur, hv, hbase, hheap, hnc, hcm, hcs, htk⟩
  · have hz : zs = [] := List.eq_nil_of_length_eq_zero h0
    subst hz
    refine (Try.slices_Sort_string_none A c w).mono ?_
    rintro e w' ⟨rfl, rfl⟩
    rw [show srtS [] = [] by simp [srtS]]
    exact ⟨rfl, h, ⟨rfl, rfl, rfl, Nat.le_refl _, fun _ _ _ => rfl⟩⟩
  · injection hv with h1 _ h3
    subst h1
    subst h3
    rw [Nat.mul_one] at htk
    have hl : (zs.map bytes).length = zs.length := by simp
    have hc := Try.slices_Sort_string g 0 c (zs.map bytes) w (holds_of_block hheap (by rw [strs_enc, hl]; exact htk)) (Array.getElem?_eq_some_iff.1 hheap).1 (by rw [hl]; exact hn)
    rw [hl] at hc
    refine hc.mono ?_
    rintro e w' ⟨rfl, k, os, rfl⟩
    refine ⟨rfl, ?_, grownBy_sorted _⟩
    have := ownsRow_sorted (w := w) (n := k) (os := os) (ss := zs.map bytes) (ts := (srtS zs).map bytes) (by simp [srtS_length]) hbase hheap (by rw [hl]; exact hnc) hcm hcs
    rw [hl, strs_enc] at this
    rw [srtS_bytes]
    exact this

set_option maxHeartbeats 1000000 in
theorem sortedIntS (gf : Nat) (lb : Array Value) (n₀ : Nat) (zs : List ByteArray) (w : World) (hz : zs.length < 4611686018427387904) (hn₀ : n₀ ≤ w.heap.size)
    (hco : Calls Try.prog 41 #[.func (.func gf) #[] lb] w fun e W' => ∃ A' c', e = .returned (.slice A' zs.length c') ∧ W'.ownsRow n₀ 9 1 (.slice A' zs.length c') zs.length (strs zs) ∧
      (A'.isNone = decide (zs = [])) ∧ Below n₀ w W') :
    Calls Try.prog 29 #[.func (.func gf) #[] lb] w fun e W' => ∃ A' c', e = .returned (.slice A' zs.length c') ∧ W'.ownsRow n₀ 9 1 (.slice A' zs.length c') zs.length (strs (srtS zs)) ∧
      (A'.isNone = decide (zs = [])) ∧ Below n₀ w W' := by
  have HC := hide hco
  clear hco
  go_enter Try.func29, Try.ntmps29
  go_wp2_with fail
  refine HC.out.mono ?_
  rintro e w1 ⟨A', c', rfl, ho, hnl, hbl⟩
  have HO := hide ho
  have HN := hide hnl
  clear ho hnl
  go_wp2_with fail
  refine (sortOwnS n₀ A' zs.length c' zs w1 HO.out hz).mono ?_
  rintro e w2 ⟨rfl, ho2, hg2⟩
  have HO2 := hide ho2
  have hb2 : Below n₀ w w2 := below_grown_own hbl (Nat.le_trans hn₀ hbl.size) (Nat.le_refl _) HO.out hg2
  clear ho2
  go_wp2
  go_ret
  exact ⟨A', c', rfl, HO2.out, HN.out, hb2⟩

set_option maxHeartbeats 1000000 in
theorem implSortedS (a : Option Addr) (len cap : Nat) (zs : List ByteArray) (hreach : len * 16 ≤ 140737488351232) (w : World) (hI : Rd w w.heap.size 1 a len (strs zs)) :
    Calls Try.prog 18 #[.slice a len cap] w fun e W' => ∃ A' c', e = .returned (.tuple #[.slice A' len c', .bool (decide (zs = []))]) ∧ W'.ownsRow w.heap.size 9 1 (.slice A' len c') len (strs (srtS zs)) ∧ Below w.heap.size w W' := by
  have hzl : zs.length = len := by have := hI.1; simpa using this
  subst hzl
  have hnil := fun (w : World) (a : Option Addr) (n c : Nat) => Lib.run_eql_slice_nil (P := Try.prog) w 29 9 a n c 0 0 Try.underlying29
  go_enter Try.func18, Try.ntmps18
  go_wp2_with fail
  refine (callsIn_wide.1 (sequence_inS Fence.wide 3 trivial rfl _ _ _ _)).mono ?_
  rintro e w1 ⟨rfl, rfl⟩
  have hB0 : Below w.heap.size w (w.alloc (.cells #[.slice a zs.length cap] 29)) := (Below.refl _ w).alloc (Nat.le_refl _) _
  have hst := sequence_stopsS Fence.wide 1 trivial rfl (Nat.le_refl _) w.heap.size w.heap.size zs.length cap a zs hreach (w.alloc (.cells #[.slice a zs.length cap] 29)) (by simp) (by simp) (Boxed.new w 29 (.slice a zs.length cap)).cell (hI.below hB0)
  have hco := collect_inS Fence.wide 3 trivial trivial rfl (by omega) _ _ trivial (enters_of Try.func43 (by kernel_rfl) rfl) w.heap.size zs.length zs _ _ hst (by simp) (by omega)
  have hso := sortedIntS _ _ w.heap.size zs _ (by omega) (by simp) (callsIn_wide.1 hco)
  go_wp2_with fail
  refine hso.mono ?_
  clear hst hco hso
  rintro e w1 ⟨A', c', rfl, ho, hnl, hbl⟩
  have HO := hide ho
  clear ho
  go_wp2
  go_ret2
  exact ⟨A', c', by first | rfl | rw [hnl], HO.out, hB0.trans hbl⟩
end Go.Proofs.Ythefajbahbmohaa
