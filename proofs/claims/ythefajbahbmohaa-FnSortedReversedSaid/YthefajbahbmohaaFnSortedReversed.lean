/-
  FnSortedReversed: the law returns true at every input, and changes nothing that was there.
-/
import Derived.ProofKit
import Derived.OpenShut
import Derived.JoinedCond
import Derived.Deep.CondSized
import Derived.SizedLaws
import Derived.WalkKit
import Derived.WalkLawsBesides
import Derived.Outline
import Derived.Deep.DeepMust
import Derived.Test.YthefajbahbmohaaOpen
import Derived.Test.YthefajbahbmohaaSortI
import Derived.Test.YthefajbahbmohaaSpec
namespace Go.Proofs.Ythefajbahbmohaa.fnSortedReversed
open Go.ChangeShapes Go.WideShapes Go.ChangeAt Go.RowKit
set_option linter.unusedVariables false
set_option linter.unusedSimpArgs false

def negs (zs : List Int) : List Int := zs.map fun x => -x
theorem negs_snoc {zs : List Int} {k : Nat} {x : Int} (h : zs[k]? = some x) : ints (negs (zs.take (k + 1))) = ints (negs (zs.take k)) ++ [.int .i64 (-x)] := by
  rw [take_snoc' h]; simp [negs, ints]
theorem srt_negs (zs : List Int) : srt (negs zs) = (negs (srt zs)).reverse := by
  refine (srt_eq ?_ ?_).symm
  · exact (List.reverse_perm _).trans ((srt_perm zs).map _)
  · rw [List.pairwise_reverse, negs, List.pairwise_map]
    exact (srt_sorted zs).imp (by intro a b h; show -b ≤ -a; omega)
theorem negs_at {zs : List Int} {n k m : Nat} {x : Int} (hl : zs.length = n) (hk : n = k + 1 + m) (hx : (srt zs)[k]? = some x) : (srt (negs zs))[m]? = some (-x) := by
  have h1 : (srt zs).length = n := by rw [srt_length, hl]
  rw [srt_negs, List.getElem?_reverse (by simp [negs]; omega)]
  simp only [negs, List.length_map, List.getElem?_map]
  rw [show (srt zs).length - 1 - m = k by omega, hx]
  rfl
set_option maxRecDepth 100000 in
set_option maxHeartbeats 4000000 in
theorem walk (a0 : Option Addr) (l0 c0 : Nat) (z0 : List Int) (w : World) (k0 : l0 ≤ c0) (m0 : c0 ≤ maxLen) (r0 : Rd w w.heap.size 1 a0 l0 (ints z0)) (f0 : ∀ x ∈ z0, (Lit.int .i64 x).wf = true) (b0 : l0 * 8 ≤ 140737488351232) :
    Calls Try.prog 8 #[.slice a0 l0 c0] w fun e w' => e = .returned (.bool true) ∧ Below w.heap.size w w' := by
  have hlen : l0 ≤ 4611686018427387903 := by omega
  have hzl : z0.length = l0 := by have := r0.1; simpa using this
  have HZ := hide hzl
  have HF := hide f0
  clear hzl f0
  have hnn : ((l0 : Int) != (l0 : Int)) = false := by simp
  have hll : ((l0 : Int) == (l0 : Int)) = true := by simp
  obtain ⟨i0, hi, hz0, hz1, hz2⟩ := info_parts infoInt
  go_enter Try.func8, Try.ntmps8
  go_wp2
  go_loopw [3, 14] (fun v i wr => ∃ k : Nat, k ≤ l0 ∧ i = .int .i64 k ∧ wr.ownsRow w.heap.size 3 1 v k (ints (negs (z0.take k))) ∧ Below w.heap.size w wr ∧ Hid (∀ x ∈ z0.take k, x ≠ -9223372036854775808)) (fun _ i _ => l0 - (intOf i).toNat)
  case atStart => exact ⟨0, Nat.zero_le _, rfl, by simpa [negs] using World.ownsRow_nil _ _ _ _, Below.refl _ _, hide (by simp)⟩
  case round =>
    obtain ⟨k, hk, rfl, hown, hB, hnm⟩ := hrel
    have hsz := hB.size
    obtain ⟨A', c', rfl⟩ := own_slice hown
    by_cases hlt : k < l0
    · obtain ⟨b, off, x, rfl, hb, hx, hcx⟩ := (r0.below hB).intx hlt
      have hbx := bounds_i64 (HF.out x (List.mem_of_getElem? hx.out))
      by_cases hmin : x = -9223372036854775808
      · have hwr : IntKind.i64.wrap (-x) = x := by rw [hmin]; decide
        have hxx : (x == x) = true := by simp
        have hx0 : (x != 0) = true := by simp; omega
        clear hmin hbx
        go_wp2
        go_ret
        exact ⟨by simp, hB⟩
      · have hbx2 : -9223372036854775807 ≤ x ∧ x ≤ 9223372036854775807 := by omega
        obtain ⟨hbx3, hbx4⟩ := hbx2
        have HM : Hid (∀ y ∈ z0.take (k + 1), y ≠ -9223372036854775808) := by
          apply hide
          rw [take_snoc' hx.out]
          intro y hy
          rcases List.mem_append.1 hy with h1 | h1
          · exact hnm.out y h1
          · obtain rfl : y = x := by simpa using h1
            exact hmin
        clear hmin
        by_cases hx0 : x = 0
        · have hne : (x == -x) = true := by simp; omega
          have hne0 : (x != 0) = false := by simpa using hx0
          have hwr : IntKind.i64.wrap (-x) = -x := IntWalk.i64_in _ (by omega)
          clear hx0
          go_wp2_with (at_builtin; go_must (refine wpList_append_own _ rfl _ _ 22 rfl w.heap.size 3 i0 (.int .i64 0) 1 8 Try.underlying22 hi hz0 hz1 hz2 rfl (by decide) _ _ _ rfl (hown.alloc _) ⟨wr.heap.size, 0, none⟩ 1 1 [.int .i64 (-x)] rfl rfl (cell_one_new _ _ _) (by simp [Value.oneCell']) (by unfold maxLen; omega) (by omega) (by simp; omega) ?_); intro v' w2 hown' hgrow _)
          have hb2 := below_append hB hsz (Nat.le_refl _) hown hgrow
          go_roundw
          case rel => exact ⟨k + 1, by omega, by go_num, by rw [negs_snoc hx.out]; exact hown', hb2, HM⟩
          case measure => simp [intOf]; omega
        · have hne : (x == -x) = false := by simp; omega
          have hwr : IntKind.i64.wrap (-x) = -x := IntWalk.i64_in _ (by omega)
          go_wp2_with (at_builtin; go_must (refine wpList_append_own _ rfl _ _ 22 rfl w.heap.size 3 i0 (.int .i64 0) 1 8 Try.underlying22 hi hz0 hz1 hz2 rfl (by decide) _ _ _ rfl (hown.alloc _) ⟨wr.heap.size, 0, none⟩ 1 1 [.int .i64 (-x)] rfl rfl (cell_one_new _ _ _) (by simp [Value.oneCell']) (by unfold maxLen; omega) (by omega) (by simp; omega) ?_); intro v' w2 hown' hgrow _)
          have hb2 := below_append hB hsz (Nat.le_refl _) hown hgrow
          go_roundw
          case rel => exact ⟨k + 1, by omega, by go_num, by rw [negs_snoc hx.out]; exact hown', hb2, HM⟩
          case measure => simp [intOf]; omega
    · obtain rfl : k = l0 := by omega
      rw [List.take_of_length_le (by rw [HZ.out]; exact Nat.le_refl _)] at hown
      have HNM : Hid (∀ x ∈ z0, x ≠ -9223372036854775808) := by have := hnm.out; rw [List.take_of_length_le (by rw [HZ.out]; exact Nat.le_refl _)] at this; exact this
      obtain ⟨w0, hw0⟩ : ∃ w0 : World, w0 = wr := ⟨_, rfl⟩
      rw [← hw0] at hown hB hsz ⊢
      clear hw0
      go_wp2_with fail
      refine (implSorted A' k c' (negs z0) b0 w0 (Rd.of_own hown)).mono ?_
      rintro e w1 ⟨A1, d1, rfl, own1, g1⟩
      have hs1 := g1.size
      have g01 : Below w.heap.size w w1 := hB.trans (g1.mono hsz)
      have hs01 := g01.size
      go_wp2_with fail
      refine (implSorted a0 k c0 z0 b0 w1 ((r0.below g01).more hs01)).mono ?_
      rintro e w2 ⟨A2, d2, rfl, own2, g2⟩
      have hs2 := g2.size
      have g02 : Below w.heap.size w w2 := g01.trans (g2.mono hs01)
      have q1 := (Rd.of_own own1).below g2
      have q2 := Rd.of_own own2
      clear own1 own2 hown r0
      go_wp2_with fail
      go_loopw [44] (fun i wr => ∃ j : Nat, j ≤ k ∧ i = .int .i64 j ∧ Drew w2 wr) (fun i _ => k - (intOf i).toNat)
      case atStart => exact ⟨0, Nat.zero_le _, rfl, Drew.refl _⟩
      case round =>
        obtain ⟨j, hj, rfl, hdr⟩ := hrel
        by_cases hlt2 : j < k
        · obtain ⟨m, hm⟩ : ∃ m, k = j + 1 + m := ⟨k - (j + 1), by omega⟩
          obtain ⟨b2, off2, x, rfl, hb2, hx, hcx⟩ := (q2.ofDrew hdr).intx hlt2
          obtain ⟨b1, off1, y, rfl, hb1, hy, hcy⟩ := (q1.ofDrew hdr).intx (k := m) (by omega)
          have hyx : y = -x := by
            have := negs_at HZ.out hm hx.out
            rw [hy.out] at this
            exact Option.some.inj this
          subst hyx
          have hxs : x ∈ srt z0 := List.mem_of_getElem? hx.out
          have hbx := bounds_i64 (HF.out x ((srt_perm z0).mem_iff.1 hxs))
          have hby : IntKind.i64.wrap (-x) = -x ∨ x = -9223372036854775808 := by
            by_cases h : x = -9223372036854775808
            · exact .inr h
            · exact .inl (IntWalk.i64_in _ (by omega))
          have hsub : ((k : Int) - 1 - (j : Int)).toNat = m := by omega
          have hs3 : 0 ≤ (k : Int) - 1 - (j : Int) := by omega
          have hs4 : (k : Int) - 1 - (j : Int) < (k : Int) := by omega
          have hyy : ∀ y : Int, (y != y) = false := fun y => by simp
          by_cases hmin : x = -9223372036854775808
          · exact absurd hmin (HNM.out x ((srt_perm z0).mem_iff.1 hxs))
          · have hwr : IntKind.i64.wrap (-x) = -x := IntWalk.i64_in _ (by omega)
            clear hby hmin
            go_wp2
            go_roundw
            case rel => exact ⟨j + 1, by omega, by go_num, hdr⟩
            case measure => simp [intOf]; omega
        · obtain rfl : j = k := by omega
          go_wp2
          go_ret
          exact ⟨by simp, g02.trans (hdr.below _)⟩

set_option maxRecDepth 100000 in
theorem lifted (os : Os) (started : os.Started) (H : Type) (enc : TypeId × Value → H) :
    ReturnsInHanded {} Try.checked os 8 .any (Rows.fnSortedReversedSpec.pre6 enc Try.prog Try.f8 Rows.fnSortedReversedRow.domain false) (Rows.fnSortedReversedSpec.post enc Try.prog Try.f8 false true false false) := by
  refine returnsInHanded_of_change_sized (C := Try.checked) own started (by kernel_rfl) Try.func8
    (ChangeSpec.witness6 (enc := enc) (C := Try.checked) false ⟨#[], #[.slice none 0 0], []⟩ 8 (by kernel_rfl) (by kernel_rfl) (by kernel_rfl) (by kernel_rfl)) ?_
  intro W base args ds gs before hval0 hW _ hsz0 _
  have hsz : (DataW.weightsEach Try.prog (Try.f8.params.toList ++ Rows.fnSortedReversedSpec.plain.varTypes Try.prog) (ds ++ gs)).all (· ≤ reachBytes) = true := hsz0
  have hval : ∀ (j : Nat) t v, Try.f8.params[j]? = some t → args[j]? = some v → Value.okWide Try.prog W .any base t v := hval0
  have hW' := hW
  obtain ⟨p, q, hA0, hV, rfl, hfz, hnd⟩ := hW
  have hA : DataW.TrodAll enc Try.prog W 0 (fun _ => true) true Try.f8.params.toList args.toList ds p := hA0
  rw [Try.params8] at hA hval hsz
  obtain ⟨v0, vs0, d0, ds0, p0, q0, hargs, rfl, rfl, h0, rr0⟩ := trodAll_cons hA
  obtain ⟨rfl, rfl, rfl⟩ := trodAll_nil rr0
  obtain rfl : args = #[v0] := by cases args; simp_all
  obtain ⟨rfl, rfl⟩ := trodVars_none hV
  have t0 := h0
  have lt0 : ∀ x ∈ p0, x.block < W.heap.size := by obtain ⟨m, hm⟩ := t0; exact DataW.trod_lt m _ _ _ hm
  obtain ⟨a0, l0, c0, z0, rfl, k0, m0, r0, f0, u0, s0⟩ := openInts (hval 0 22 v0 rfl rfl) h0
  have b0 := s0 (sized_at hsz 0 rfl rfl)
  refine (walk a0 l0 c0 z0 W k0 m0 r0 f0 b0).mono fun e W' ⟨he, bel⟩ => ?_
  subst he
  exact ⟨_, rfl, _, _, _, [], _, [], hW', trodAll_mk1 (shut_bool Try.underlying4 _), (trodAll_cons_mk (Below.trod laidOut (by kernel_rfl) (of_decide_eq_true (by kernel_rfl)) t0 bel lt0) trodAll_mk0), rfl, bel.frame _, fun h => by cases h⟩

theorem over : Rows.fnSortedReversedRow.holds Try.pinned (OpenSpec.ofChange Rows.fnSortedReversedSpec) :=
  OpenClaim.holds_of_wide 8 Try.f8 rfl rfl rfl rfl rfl rfl rfl ⟨rfl, rfl, rfl, rfl, rfl⟩ rfl rfl rfl rfl rfl (by kernel_rfl) Try.func8 (by kernel_rfl)
    (of_decide_eq_true (by kernel_rfl)) (by unfold Func.isWrapper; first | (rw [if_pos (by decide +kernel)]; kernel_rfl) | (rw [if_neg (by decide +kernel)]; exact ⟨rfl, rfl⟩))
    (fun os started H enc _ => lifted os started H enc)

/-- the given statement -/
theorem proved : Rows.FnSortedReversedSaid := over
#print axioms proved
end Go.Proofs.Ythefajbahbmohaa.fnSortedReversed
