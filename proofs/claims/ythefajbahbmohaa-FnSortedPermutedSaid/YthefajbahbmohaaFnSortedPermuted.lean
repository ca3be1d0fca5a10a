/-
  FnSortedPermuted: the law returns true at every input, and changes nothing that was there.
-/
import Derived.ProofKit
import Derived.OpenShut
import Derived.JoinedCond
import Derived.Deep.CondSized
import Derived.SizedLaws
import Derived.WalkKit
import Derived.WalkLawsBesides
import Derived.Outline
import Derived.Deep.DeepMust
import Derived.Test.YthefajbahbmohaaOpen
import Derived.Test.YthefajbahbmohaaSortI
import Derived.Test.YthefajbahbmohaaSpec
import Derived.Test.YthefajbahbmohaaCount
namespace Go.Proofs.Ythefajbahbmohaa.fnSortedPermuted
open Go.ChangeShapes Go.WideShapes Go.ChangeAt Go.RowKit
set_option linter.unusedVariables false
set_option linter.unusedSimpArgs false

theorem perm_srt (xs ys : List Int) : (permB xs ys == decide (srt xs = srt ys)) = true := by
  rw [beq_iff_eq]
  by_cases h : xs.Perm ys
  · rw [permB_iff.2 h, srt_congr h]; simp
  · have h1 : permB xs ys = false := by rw [← Bool.not_eq_true, permB_iff]; exact h
    have h2 : ¬ srt xs = srt ys := fun e => h ((srt_perm xs).symm.trans (e ▸ srt_perm ys))
    rw [h1]; simp [h2]
set_option maxRecDepth 100000 in
set_option maxHeartbeats 4000000 in
theorem walk (a0 : Option Addr) (l0 c0 : Nat) (z0 : List Int) (a1 : Option Addr) (l1 c1 : Nat) (z1 : List Int) (w : World) (k0 : l0 ≤ c0) (m0 : c0 ≤ maxLen) (r0 : Rd w w.heap.size 1 a0 l0 (ints z0)) (f0 : ∀ x ∈ z0, (Lit.int .i64 x).wf = true) (k1 : l1 ≤ c1) (m1 : c1 ≤ maxLen) (r1 : Rd w w.heap.size 1 a1 l1 (ints z1)) (f1 : ∀ x ∈ z1, (Lit.int .i64 x).wf = true) (b0 : l0 * 8 ≤ 140737488351232) (b1 : l1 * 8 ≤ 140737488351232) :
    Calls Try.prog 7 #[.slice a0 l0 c0, .slice a1 l1 c1] w fun e w' => e = .returned (.bool true) ∧ Below w.heap.size w w' := by
  have hlen : l0 ≤ 9223372036854775806 := by omega
  have hlen1 : l1 ≤ 9223372036854775806 := by omega
  have hpp := perm_srt z0 z1
  obtain ⟨p, hp⟩ : ∃ p, permB z0 z1 = p := ⟨_, rfl⟩
  obtain ⟨q, hq⟩ : ∃ q, decide (srt z0 = srt z1) = q := ⟨_, rfl⟩
  rw [hp, hq] at hpp
  have HP := hide hp
  have HQ := hide hq
  clear hp hq
  go_enter Try.func7, Try.ntmps7
  go_wp2_with fail
  refine (implSorted a0 l0 c0 z0 b0 w r0).mono ?_
  rintro e w1 ⟨A1, d1, rfl, own1, g1⟩
  have hs1 := g1.size
  go_wp2_with fail
  refine (implSorted a1 l1 c1 z1 b1 w1 ((r1.below g1).more hs1)).mono ?_
  rintro e w2 ⟨A2, d2, rfl, own2, g2⟩
  have hs2 := g2.size
  have g02 : Below w.heap.size w w2 := g1.trans (g2.mono hs1)
  go_wp2_with fail
  refine (permutedInt _ _ _ _ _ _ _ _ z0 z1 w2 (r0.below g02) (r1.below g02) hlen hlen1).mono ?_
  rintro e w3 ⟨rfl, rfl⟩
  rw [HP.out]
  go_wp2_with fail
  refine (equalInt _ _ _ _ _ _ _ _ _ _ w2 ((Rd.of_own own1).below g2) (Rd.of_own own2) (by omega)).mono ?_
  rintro e w3 ⟨rfl, hd⟩
  rw [HQ.out]
  go_wp2
  go_ret
  exact ⟨by simp, g02.trans (hd.below _)⟩

set_option maxRecDepth 100000 in
theorem lifted (os : Os) (started : os.Started) (H : Type) (enc : TypeId × Value → H) :
    ReturnsInHanded {} Try.checked os 7 .any (Rows.fnSortedPermutedSpec.pre6 enc Try.prog Try.f7 Rows.fnSortedPermutedRow.domain false) (Rows.fnSortedPermutedSpec.post enc Try.prog Try.f7 false true false false) := by
  refine returnsInHanded_of_change_sized (C := Try.checked) own started (by kernel_rfl) Try.func7
    (ChangeSpec.witness6 (enc := enc) (C := Try.checked) false ⟨#[], #[.slice none 0 0, .slice none 0 0], []⟩ 8 (by kernel_rfl) (by kernel_rfl) (by kernel_rfl) (by kernel_rfl)) ?_
  intro W base args ds gs before hval0 hW _ hsz0 _
  have hsz : (DataW.weightsEach Try.prog (Try.f7.params.toList ++ Rows.fnSortedPermutedSpec.plain.varTypes Try.prog) (ds ++ gs)).all (· ≤ reachBytes) = true := hsz0
  have hval : ∀ (j : Nat) t v, Try.f7.params[j]? = some t → args[j]? = some v → Value.okWide Try.prog W .any base t v := hval0
  have hW' := hW
  obtain ⟨p, q, hA0, hV, rfl, hfz, hnd⟩ := hW
  have hA : DataW.TrodAll enc Try.prog W 0 (fun _ => true) true Try.f7.params.toList args.toList ds p := hA0
  rw [Try.params7] at hA hval hsz
  obtain ⟨v0, vs0, d0, ds0, p0, q0, hargs, rfl, rfl, h0, rr0⟩ := trodAll_cons hA
  obtain ⟨v1, vs1, d1, ds1, p1, q1, rfl, rfl, rfl, h1, rr1⟩ := trodAll_cons rr0
  obtain ⟨rfl, rfl, rfl⟩ := trodAll_nil rr1
  obtain rfl : args = #[v0, v1] := by cases args; simp_all
  obtain ⟨rfl, rfl⟩ := trodVars_none hV
  have t0 := h0
  have lt0 : ∀ x ∈ p0, x.block < W.heap.size := by obtain ⟨m, hm⟩ := t0; exact DataW.trod_lt m _ _ _ hm
  obtain ⟨a0, l0, c0, z0, rfl, k0, m0, r0, f0, u0, s0⟩ := openInts (hval 0 22 v0 rfl rfl) h0
  have b0 := s0 (sized_at hsz 0 rfl rfl)
  have t1 := h1
  have lt1 : ∀ x ∈ p1, x.block < W.heap.size := by obtain ⟨m, hm⟩ := t1; exact DataW.trod_lt m _ _ _ hm
  obtain ⟨a1, l1, c1, z1, rfl, k1, m1, r1, f1, u1, s1⟩ := openInts (hval 1 22 v1 rfl rfl) h1
  have b1 := s1 (sized_at hsz 1 rfl rfl)
  refine (walk a0 l0 c0 z0 a1 l1 c1 z1 W k0 m0 r0 f0 k1 m1 r1 f1 b0 b1).mono fun e W' ⟨he, bel⟩ => ?_
  subst he
  exact ⟨_, rfl, _, _, _, [], _, [], hW', trodAll_mk1 (shut_bool Try.underlying4 _), (trodAll_cons_mk (Below.trod laidOut (by kernel_rfl) (of_decide_eq_true (by kernel_rfl)) t0 bel lt0) (trodAll_cons_mk (Below.trod laidOut (by kernel_rfl) (of_decide_eq_true (by kernel_rfl)) t1 bel lt1) trodAll_mk0)), rfl, bel.frame _, fun h => by cases h⟩

theorem over : Rows.fnSortedPermutedRow.holds Try.pinned (OpenSpec.ofChange Rows.fnSortedPermutedSpec) :=
  OpenClaim.holds_of_wide 7 Try.f7 rfl rfl rfl rfl rfl rfl rfl ⟨rfl, rfl, rfl, rfl, rfl⟩ rfl rfl rfl rfl rfl (by kernel_rfl) Try.func7 (by kernel_rfl)
    (of_decide_eq_true (by kernel_rfl)) (by unfold Func.isWrapper; first | (rw [if_pos (by decide +kernel)]; kernel_rfl) | (rw [if_neg (by decide +kernel)]; exact ⟨rfl, rfl⟩))
    (fun os started H enc _ => lifted os started H enc)

/-- the given statement -/
theorem proved : Rows.FnSortedPermutedSaid := over
#print axioms proved
end Go.Proofs.Ythefajbahbmohaa.fnSortedPermuted
