/-
  FnSortedRising: the law returns true at every input, and changes nothing that was there.
-/
import Derived.ProofKit
import Derived.OpenShut
import Derived.JoinedCond
import Derived.Deep.CondSized
import Derived.SizedLaws
import Derived.WalkKit
import Derived.WalkLawsBesides
import Derived.Outline
import Derived.Deep.DeepMust
import Derived.Test.YthefajbahbmohaaOpen
import Derived.Test.YthefajbahbmohaaSortI
import Derived.Test.YthefajbahbmohaaSpec
import Derived.Test.YthefajbahbmohaaCount
namespace Go.Proofs.Ythefajbahbmohaa.fnSortedRising
open Go.ChangeShapes Go.WideShapes Go.ChangeAt Go.RowKit
set_option linter.unusedVariables false
set_option linter.unusedSimpArgs false

theorem rising {zs : List Int} {k : Nat} {x y : Int} (hx : (srt zs)[k]? = some x) (hy : (srt zs)[k + 1]? = some y) : x ≤ y := by
  obtain ⟨h1, rfl⟩ := List.getElem?_eq_some_iff.1 hx
  obtain ⟨h2, rfl⟩ := List.getElem?_eq_some_iff.1 hy
  exact (List.pairwise_iff_getElem.1 (srt_sorted zs)) k (k + 1) h1 h2 (Nat.lt_succ_self _)
set_option maxRecDepth 100000 in
set_option maxHeartbeats 4000000 in
theorem walk (a0 : Option Addr) (l0 c0 : Nat) (z0 : List Int) (w : World) (k0 : l0 ≤ c0) (m0 : c0 ≤ maxLen) (r0 : Rd w w.heap.size 1 a0 l0 (ints z0)) (f0 : ∀ x ∈ z0, (Lit.int .i64 x).wf = true) (b0 : l0 * 8 ≤ 140737488351232) :
    Calls Try.prog 9 #[.slice a0 l0 c0] w fun e w' => e = .returned (.bool true) ∧ Below w.heap.size w w' := by
  have hlen : l0 ≤ 9223372036854775806 := by omega
  have hpb : permB (srt z0) z0 = true := permB_of (srt_perm z0)
  have HPB := hide hpb
  clear hpb
  go_enter Try.func9, Try.ntmps9
  go_wp2_with fail
  refine (implSorted a0 l0 c0 z0 b0 w r0).mono ?_
  rintro e w1 ⟨A1, d1, rfl, own1, g1⟩
  have hrd := Rd.of_own own1
  have hs1 := g1.size
  go_wp2_with fail
  go_loopw [5] (fun i wr => ∃ j : Nat, j ≤ l0 ∧ i = .int .i64 ((j : Int) + 1) ∧ Drew w1 wr) (fun i _ => l0 + 1 - (intOf i).toNat)
  case atStart => exact ⟨0, Nat.zero_le _, rfl, Drew.refl _⟩
  case round =>
    obtain ⟨j, hj, rfl, hdr⟩ := hrel
    by_cases hlt : j + 1 < l0
    · obtain ⟨b, off, x, hA, hb, hx, hcx⟩ := (hrd.ofDrew hdr).intx (k := j) (by omega)
      obtain ⟨b', off', y, hA', hb', hy, hcy⟩ := (hrd.ofDrew hdr).intx hlt
      subst hA
      injection hA' with hA'
      injection hA' with e1 e2
      subst e1 e2
      have hxy : x ≤ y := rising hx.out hy.out
      have hnlt : decide (y < x) = false := by simp; omega
      have hlti : (j : Int) + 1 < (l0 : Int) := by omega
      have hltj : (j : Int) < (l0 : Int) := by omega
      go_wp2_with fail
      go_quiet (fail)
      go_wp2_with fail
      go_roundw
      case rel => exact ⟨j + 1, by omega, by go_num, hdr.drewN _⟩
      case measure => simp [intOf]; omega
    · have hlti : ¬ ((j : Int) + 1 < (l0 : Int)) := by omega
      have g1' := hdr.below w1.heap.size
      go_wp2_with fail
      refine (permutedInt _ _ _ _ _ _ _ _ (srt z0) z0 wr (hrd.ofDrew hdr) ((r0.below g1).ofDrew hdr) hlen hlen).mono ?_
      rintro e w3 ⟨rfl, rfl⟩
      rw [HPB.out]
      go_wp2_with fail
      go_ret
      exact ⟨by simp, g1.trans (hdr.below _)⟩

set_option maxRecDepth 100000 in
theorem lifted (os : Os) (started : os.Started) (H : Type) (enc : TypeId × Value → H) :
    ReturnsInHanded {} Try.checked os 9 .any (Rows.fnSortedRisingSpec.pre6 enc Try.prog Try.f9 Rows.fnSortedRisingRow.domain false) (Rows.fnSortedRisingSpec.post enc Try.prog Try.f9 false true false false) := by
  refine returnsInHanded_of_change_sized (C := Try.checked) own started (by kernel_rfl) Try.func9
    (ChangeSpec.witness6 (enc := enc) (C := Try.checked) false ⟨#[], #[.slice none 0 0], []⟩ 8 (by kernel_rfl) (by kernel_rfl) (by kernel_rfl) (by kernel_rfl)) ?_
  intro W base args ds gs before hval0 hW _ hsz0 _
  have hsz : (DataW.weightsEach Try.prog (Try.f9.params.toList ++ Rows.fnSortedRisingSpec.plain.varTypes Try.prog) (ds ++ gs)).all (· ≤ reachBytes) = true := hsz0
  have hval : ∀ (j : Nat) t v, Try.f9.params[j]? = some t → args[j]? = some v → Value.okWide Try.prog W .any base t v := hval0
  have hW' := hW
  obtain ⟨p, q, hA0, hV, rfl, hfz, hnd⟩ := hW
  have hA : DataW.TrodAll enc Try.prog W 0 (fun _ => true) true Try.f9.params.toList args.toList ds p := hA0
  rw [Try.params9] at hA hval hsz
  obtain ⟨v0, vs0, d0, ds0, p0, q0, hargs, rfl, rfl, h0, rr0⟩ := trodAll_cons hA
  obtain ⟨rfl, rfl, rfl⟩ := trodAll_nil rr0
  obtain rfl : args = #[v0] := by cases args; simp_all
  obtain ⟨rfl, rfl⟩ := trodVars_none hV
  have t0 := h0
  have lt0 : ∀ x ∈ p0, x.block < W.heap.size := by obtain ⟨m, hm⟩ := t0; exact DataW.trod_lt m _ _ _ hm
  obtain ⟨a0, l0, c0, z0, rfl, k0, m0, r0, f0, u0, s0⟩ := openInts (hval 0 22 v0 rfl rfl) h0
  have b0 := s0 (sized_at hsz 0 rfl rfl)
  refine (walk a0 l0 c0 z0 W k0 m0 r0 f0 b0).mono fun e W' ⟨he, bel⟩ => ?_
  subst he
  exact ⟨_, rfl, _, _, _, [], _, [], hW', trodAll_mk1 (shut_bool Try.underlying4 _), (trodAll_cons_mk (Below.trod laidOut (by kernel_rfl) (of_decide_eq_true (by kernel_rfl)) t0 bel lt0) trodAll_mk0), rfl, bel.frame _, fun h => by cases h⟩

theorem over : Rows.fnSortedRisingRow.holds Try.pinned (OpenSpec.ofChange Rows.fnSortedRisingSpec) :=
  OpenClaim.holds_of_wide 9 Try.f9 rfl rfl rfl rfl rfl rfl rfl ⟨rfl, rfl, rfl, rfl, rfl⟩ rfl rfl rfl rfl rfl (by kernel_rfl) Try.func9 (by kernel_rfl)
    (of_decide_eq_true (by kernel_rfl)) (by unfold Func.isWrapper; first | (rw [if_pos (by decide +kernel)]; kernel_rfl) | (rw [if_neg (by decide +kernel)]; exact ⟨rfl, rfl⟩))
    (fun os started H enc _ => lifted os started H enc)

/-- the given statement -/
theorem proved : Rows.FnSortedRisingSaid := over
#print axioms proved
end Go.Proofs.Ythefajbahbmohaa.fnSortedRising
