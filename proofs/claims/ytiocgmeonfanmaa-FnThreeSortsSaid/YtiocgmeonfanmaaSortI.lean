/-
  slices.Sort and slices.Sorted of ints; impl.Sorted.
-/
import Derived.Sort.OwnSortedInts
import Derived.Test.YtiocgmeonfanmaaShelf
import Derived.Test.YtiocgmeonfanmaaPlain
import Derived.Test.YtiocgmeonfanmaaAppS
import Derived.Test.YtiocgmeonfanmaaAppR
namespace Go.Proofs.Ytiocgmeonfanmaa
open Go.RowKit Go.Shelf Go.Sort
set_option linter.unusedVariables false
set_option linter.unusedSimpArgs false
attribute [local go_sem] Oper.semAt_some

theorem sortOwn (base : Nat) (A : Option Addr) (n c : Nat) (zs : List Int) (w : World) (h : w.ownsRow base 3 1 (.slice A n c) n (ints zs)) (hn : n < 4611686018427387904) :
    Calls Try.prog 37 #[.slice A n c] w fun e w' => e = .returned (.tuple #[]) ∧ w'.ownsRow base 3 1 (.slice A n c) n (ints (srt zs)) ∧ w.grownBy w' (Value.slice A n c).ownBlock := by
  have hzl : zs.length = n := by have := h.1; simpa using this
  subst hzl
  rcases h.2 with ⟨hv, h0⟩ | ⟨g, cap, cur, hv, hbase, hheap, hnc, hcm, hcs, htk⟩
  · have hz : zs = [] := List.eq_nil_of_length_eq_zero h0
    subst hz
    refine (Try.slices_Sort_int_none A c w).mono ?_
    rintro e w' ⟨rfl, rfl⟩
    rw [show srt [] = [] by simp [srt]]
    exact ⟨rfl, h, ⟨rfl, rfl, rfl, Nat.le_refl _, fun _ _ _ => rfl⟩⟩
  · injection hv with h1 _ h3
    subst h1
    subst h3
    rw [Nat.mul_one] at htk
    refine (Try.slices_Sort_int g 0 c zs w (holds_of_blockI hheap htk) (Array.getElem?_eq_some_iff.1 hheap).1 hn).mono ?_
    rintro e w' ⟨rfl, k, os, rfl⟩
    exact ⟨rfl, ownsRow_sortedI (srt_length zs) hbase hheap hnc hcm hcs, grownBy_sortedI _⟩

set_option maxHeartbeats 1000000 in
theorem sortedInt (gf : Nat) (lb : Array Value) (n₀ : Nat) (zs : List Int) (w : World) (hz : zs.length < 4611686018427387904) (hn₀ : n₀ ≤ w.heap.size)
    (hco : Calls Try.prog 36 #[.func (.func gf) #[] lb] w fun e W' => ∃ A' c', e = .returned (.slice A' zs.length c') ∧ W'.ownsRow n₀ 3 1 (.slice A' zs.length c') zs.length (ints zs) ∧
      (A'.isNone = decide (zs = [])) ∧ Below n₀ w W') :
    Calls Try.prog 30 #[.func (.func gf) #[] lb] w fun e W' => ∃ A' c', e = .returned (.slice A' zs.length c') ∧ W'.ownsRow n₀ 3 1 (.slice A' zs.length c') zs.length (ints (srt zs)) ∧
      (A'.isNone = decide (zs = [])) ∧ Below n₀ w W' := by
  have HC := hide hco
  clear hco
  go_enter Try.func30, Try.ntmps30
  go_wp2_with fail
  refine HC.out.mono ?_
  rintro e w1 ⟨A', c', rfl, ho, hnl, hbl⟩
  have HO := hide ho
  have HN := hide hnl
  clear ho hnl
  go_wp2_with fail
  refine (sortOwn n₀ A' zs.length c' zs w1 HO.out hz).mono ?_
  rintro e w2 ⟨rfl, ho2, hg2⟩
  have HO2 := hide ho2
  have hb2 : Below n₀ w w2 := below_grown_own hbl (Nat.le_trans hn₀ hbl.size) (Nat.le_refl _) HO.out hg2
  clear ho2
  go_wp2
  go_ret
  exact ⟨A', c', rfl, HO2.out, HN.out, hb2⟩

set_option maxHeartbeats 1000000 in
theorem implSorted (a : Option Addr) (len cap : Nat) (zs : List Int) (hreach : len * 8 ≤ 140737488351232) (w : World) (hI : Rd w w.heap.size 1 a len (ints zs)) :
    Calls Try.prog 23 #[.slice a len cap] w fun e W' => ∃ A' c', e = .returned (.tuple #[.slice A' len c', .bool (decide (zs = []))]) ∧ W'.ownsRow w.heap.size 3 1 (.slice A' len c') len (ints (srt zs)) ∧ Below w.heap.size w W' := by
  have hzl : zs.length = len := by have := hI.1; simpa using this
  subst hzl
  have hnil := fun (w : World) (a : Option Addr) (n c : Nat) => Lib.run_eql_slice_nil (P := Try.prog) w 23 3 a n c 0 0 Try.underlying23
  go_enter Try.func23, Try.ntmps23
  go_wp2_with fail
  refine (callsIn_wide.1 (sequence_in Fence.wide 3 trivial rfl _ _ _ _)).mono ?_
  rintro e w1 ⟨rfl, rfl⟩
  have hB0 : Below w.heap.size w (w.alloc (.cells #[.slice a zs.length cap] 23)) := (Below.refl _ w).alloc (Nat.le_refl _) _
  have hst := sequence_stops Fence.wide 1 trivial rfl (Nat.le_refl _) w.heap.size w.heap.size zs.length cap a zs hreach (w.alloc (.cells #[.slice a zs.length cap] 23)) (by simp) (by simp) (Boxed.new w 23 (.slice a zs.length cap)).cell (hI.below hB0)
  have hco := collect_in Fence.wide 3 trivial trivial rfl (by omega) _ _ trivial (enters_of Try.func38 (by kernel_rfl) rfl) w.heap.size zs.length zs _ _ hst (by simp) (by omega)
  have hso := sortedInt _ _ w.heap.size zs _ (by omega) (by simp) (callsIn_wide.1 hco)
  go_wp2_with fail
  refine hso.mono ?_
  clear hst hco hso
  rintro e w1 ⟨A', c', rfl, ho, hnl, hbl⟩
  have HO := hide ho
  clear ho
  go_wp2
  go_ret2
  exact ⟨A', c', by first | rfl | rw [hnl], HO.out, hB0.trans hbl⟩
end Go.Proofs.Ytiocgmeonfanmaa
