/-
  impl.SortedFloats: the bits of the floats in order.
-/
import Derived.Deep.OwnRows
import Derived.Test.YthefajbahbmohaaSortFl
import Derived.Test.YthefajbahbmohaaNan
namespace Go.Proofs.Ythefajbahbmohaa
open Go.RowKit Go.Shelf Go.Sort
set_option linter.unusedVariables false
set_option linter.unusedSimpArgs false
attribute [local go_sem] Oper.semAt_some
attribute [local go_sem] storeF

/-- the row while it is filled -/
def fillF (zs : List Int) (n k : Nat) : List Value := flts ((zs.take k).map Int.toNat) ++ List.replicate (n - k) (.float .f64 0)
theorem fillF_set {zs : List Int} {n k : Nat} {x : Int} (hl : zs.length = n) (h : zs[k]? = some x) : (fillF zs n k).set k (.float .f64 x.toNat) = fillF zs n (k + 1) := by
  have hk := (List.getElem?_eq_some_iff.1 h).1
  have hlen : (flts ((zs.take k).map Int.toNat)).length = k := by simp; omega
  unfold fillF
  rw [take_snoc' h, List.set_append_right _ _ (by omega), hlen, Nat.sub_self, show n - k = (n - (k + 1)) + 1 by omega, List.replicate_succ, List.set_cons_zero]
  simp [flts]
theorem fillF_all {zs : List Int} {n : Nat} (hl : zs.length = n) : fillF zs n n = flts (zs.map Int.toNat) := by
  unfold fillF
  rw [List.take_of_length_le (by omega)]
  simp
/-- what SortedFloats hands back -/
def outF (zs : List Int) : List Int := (srtF (zs.map Int.toNat)).map Int.ofNat
theorem outF_length (zs : List Int) : (outF zs).length = zs.length := by simp [outF, srtF_length]
theorem out_snoc {ys : List Nat} {k x : Nat} (h : ys[k]? = some x) : u64s ((ys.take (k + 1)).map Int.ofNat) = u64s ((ys.take k).map Int.ofNat) ++ [.int .u64 (x : Int)] := by
  rw [take_snoc' h]; simp [u64s]
theorem toNat_back {zs : List Int} (h : ∀ x ∈ zs, 0 ≤ x) : (zs.map Int.toNat).map Int.ofNat = zs := by
  rw [List.map_map]
  conv => rhs; rw [← List.map_id zs]
  exact List.map_congr_left fun x hx => by have := h x hx; simp; omega
theorem outF_perm {zs : List Int} (h : ∀ x ∈ zs, 0 ≤ x) : (outF zs).Perm zs := by
  have h1 := (srtF_perm (zs.map Int.toNat)).map Int.ofNat
  rwa [toNat_back h] at h1

set_option maxRecDepth 100000 in
set_option maxHeartbeats 2000000 in
theorem implSortedFloats (a : Option Addr) (n cap : Nat) (zs : List Int) (hb : n * 8 ≤ 140737488351232) (w : World) (hI : Rd w w.heap.size 1 a n (u64s zs)) :
    Calls Try.prog 21 #[.slice a n cap] w fun e W' => ∃ A' c', e = .returned (.slice A' n c') ∧ W'.ownsRow w.heap.size 38 1 (.slice A' n c') n (u64s (outF zs)) ∧ Below w.heap.size w W' := by
  have mixed := mixedF
  have hfr := runFrom
  have hzl : zs.length = n := by have := hI.1; simpa using this
  have HZ := hide hzl
  clear hzl
  obtain ⟨i0, hi, hz0, hz1, hz2⟩ := info_parts infoU
  have hmk : ∀ W : World, (Instr.makeSlice 52 (.int .i64 (n : Int)) (.int .i64 (n : Int))).run Try.prog W = .ok (.slice (some ⟨W.heap.size, 0, none⟩) n n) (W.alloc (.cells (madeCells #[Value.float .f64 0] n) 53)) := fun W => run_make_row' 52 53 (.float .f64 0) 8 Try.underlying52 infoFl rfl .i64 .i64 n (by omega) (by omega) W
  obtain ⟨w1, hw1⟩ : ∃ w1, w1 = w.alloc (.cells (madeCells #[Value.float .f64 0] n) 53) := ⟨_, rfl⟩
  have g1 : Below w.heap.size w w1 := by rw [hw1]; exact (Below.refl _ w).alloc (Nat.le_refl _) _
  have own1 : w1.ownsRow w.heap.size 53 1 (.slice (some ⟨w.heap.size, 0, none⟩) n n) n (fillF zs n 0) := by
    refine ⟨by simp [fillF], .inr ⟨w.heap.size, n, madeCells #[Value.float .f64 0] n, rfl, Nat.le_refl _, by rw [hw1]; exact heap_alloc_new w _, Nat.le_refl _, by unfold maxLen; omega, ?_, ?_⟩⟩
    · simp [madeCells]
    · rw [toList_madeCells_one]; simp [fillF]
  go_enter Try.func21, Try.ntmps21
  go_wp2_with fail
  rw [← hw1]
  clear hw1
  go_loopw [14] (fun i wr => ∃ k : Nat, k ≤ n ∧ i = .int .i64 k ∧ wr.ownsRow w.heap.size 53 1 (.slice (some ⟨w.heap.size, 0, none⟩) n n) n (fillF zs n k) ∧ Below w.heap.size w wr) (fun i _ => n - (intOf i).toNat)
  case atStart => exact ⟨0, Nat.zero_le _, rfl, own1, g1⟩
  case round =>
    obtain ⟨k, hk, rfl, hown, hB⟩ := hrel
    clear own1 g1
    have hsz := hB.size
    by_cases hlt : k < n
    · obtain ⟨b, off, x, rfl, hb', hx, hcx⟩ := (hI.below hB).u64x hlt
      have hcj := hown.cellAt k (by omega)
      have hfj := hown.frozenAt k
      obtain ⟨u, hu⟩ : ∃ u, (fillF zs n k)[k]? = some u := ⟨(fillF zs n k)[k]'(by have := hown.1; omega), List.getElem?_eq_getElem _⟩
      rw [hu] at hcj
      have hst := hown.stored k (.float .f64 x.toNat)
      rw [fillF_set HZ.out hx.out] at hst
      have HST := hide hst
      clear hst hu
      go_wp2
      go_roundw
      case rel => exact ⟨k + 1, by omega, by go_num, HST.out.1, hB.setCell (p := ⟨w.heap.size, k, none⟩) (Nat.le_refl _) _⟩
      case measure => simp [intOf]; omega
    · obtain rfl : k = n := by omega
      rw [fillF_all HZ.out] at hown
      obtain ⟨ys, hys⟩ : ∃ ys, ys = zs.map Int.toNat := ⟨_, rfl⟩
      have hyl : ys.length = k := by rw [hys, List.length_map, HZ.out]
      rw [← hys] at hown
      have HO : Hid (outF zs = (srtF ys).map Int.ofNat) := hide (by rw [hys]; rfl)
      clear hys
      subst hyl
      have hRd := (Rd.of_own hown)
      have hrn := runBits
      obtain ⟨w0, hw0⟩ : ∃ w0 : World, w0 = wr := ⟨_, rfl⟩
      rw [← hw0] at hown hB hsz hRd ⊢
      clear hw0
      go_wp2_with fail
      refine (callsIn_wide.1 (sequence_inFl Fence.wide 3 trivial rfl _ _ _ _)).mono ?_
      rintro e w2 ⟨rfl, rfl⟩
      have hB0 : Below w0.heap.size w0 (w0.alloc (.cells #[.slice (some ⟨w.heap.size, 0, none⟩) ys.length ys.length] 52)) := (Below.refl _ w0).alloc (Nat.le_refl _) _
      have hst := sequence_stopsFl Fence.wide 1 trivial rfl (Nat.le_refl _) w0.heap.size w0.heap.size ys.length ys.length (some ⟨w.heap.size, 0, none⟩) ys hb (w0.alloc (.cells #[.slice (some ⟨w.heap.size, 0, none⟩) ys.length ys.length] 52)) (by simp) (by simp) (Boxed.new w0 52 (.slice (some ⟨w.heap.size, 0, none⟩) ys.length ys.length)).cell (hRd.below hB0)
      have hco := collect_inFl Fence.wide 3 trivial trivial rfl (by omega) _ _ trivial (enters_of Try.func46 (by kernel_rfl) rfl) w0.heap.size ys.length ys _ _ hst (by simp) (by omega)
      have hso := sortedFl _ _ w0.heap.size ys _ (by omega) (by simp) (callsIn_wide.1 hco)
      go_wp2_with fail
      refine hso.mono ?_
      clear hst hco hso
      rintro e w3 ⟨A3, c3, rfl, own3, _, hbl⟩
      have g3 : Below w.heap.size w w3 := hB.trans ((hB0.trans hbl).mono hsz)
      have hs3 := g3.size
      have r3 := Rd.of_own own3
      clear own3 hbl hB0 hRd hown
      go_wp2_with fail
      go_loopw [6, 29] (fun v i wr => ∃ k : Nat, k ≤ ys.length ∧ i = .int .i64 k ∧ wr.ownsRow w3.heap.size 38 1 v k (u64s (((srtF ys).take k).map Int.ofNat)) ∧ Below w3.heap.size w3 wr) (fun _ i _ => ys.length - (intOf i).toNat)
      case atStart => exact ⟨0, Nat.zero_le _, rfl, by simpa using World.ownsRow_nil _ _ _ _, Below.refl _ _⟩
      case round =>
        obtain ⟨k, hk, rfl, hown, hB3⟩ := hrel
        have hsz3 := hB3.size
        obtain ⟨A', c', rfl⟩ := own_slice hown
        by_cases hlt2 : k < ys.length
        · obtain ⟨b, off, x, rfl, hb', hx, hcx⟩ := (r3.below hB3).fltx hlt2
          go_wp2_with (at_builtin; go_must (refine wpList_append_own _ rfl _ _ 35 rfl w3.heap.size 38 i0 (.int .u64 0) 1 8 Try.underlying35 hi hz0 hz1 hz2 rfl (by decide) _ _ _ rfl (hown.alloc _) ⟨wr.heap.size, 0, none⟩ 1 1 [.int .u64 (x : Int)] rfl rfl (cell_one_new _ _ _) (by simp [Value.oneCell']) (by unfold maxLen; omega) (by omega) (by simp; omega) ?_); intro v' w4 hown' hgrow _)
          have hb2 := below_append hB3 hsz3 (Nat.le_refl _) hown hgrow
          go_roundw
          case rel => exact ⟨k + 1, by omega, by go_num, by rw [out_snoc hx.out]; exact hown', hb2⟩
          case measure => simp [intOf]; omega
        · obtain rfl : k = ys.length := by omega
          rw [List.take_of_length_le (by rw [srtF_length]; exact Nat.le_refl _), ← HO.out] at hown
          go_wp2
          go_ret
          exact ⟨A', c', rfl, own_base hown hs3, g3.trans (hB3.mono hs3)⟩
end Go.Proofs.Ythefajbahbmohaa
