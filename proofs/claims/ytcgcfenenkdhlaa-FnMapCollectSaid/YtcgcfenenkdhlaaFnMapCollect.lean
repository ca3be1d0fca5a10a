/-
  FnMapCollect: the law returns true at every input, and changes nothing that was there.
-/
import Derived.ProofKit
import Derived.OpenShut
import Derived.JoinedCond
import Derived.Deep.CondSized
import Derived.SizedLaws
import Derived.WalkKit
import Derived.WalkLawsBesides
import Derived.Outline
import Derived.Deep.DeepMust
import Derived.Test.YtcgcfenenkdhlaaOpen
import Derived.Test.YtcgcfenenkdhlaaOpenE
import Derived.Test.YtcgcfenenkdhlaaMapC
import Derived.Test.YtcgcfenenkdhlaaEqE
namespace Go.Proofs.Ytcgcfenenkdhlaa.fnMapCollect
open Go.ChangeShapes Go.WideShapes Go.ChangeAt Go.RowKit
set_option linter.unusedVariables false
set_option linter.unusedSimpArgs false

set_option maxRecDepth 100000 in
set_option maxHeartbeats 4000000 in
theorem walk (a0 : Option Addr) (l0 c0 : Nat) (z0 : List (Int × Int)) (w : World) (k0 : l0 ≤ c0) (m0 : c0 ≤ maxLen) (r0 : Rd w w.heap.size 2 a0 l0 (pairs z0)) (f0 : ∀ x ∈ z0, (Lit.int .i64 x.1).wf = true ∧ (Lit.int .i64 x.2).wf = true) (b0 : l0 * 16 ≤ 140737488351232) :
    Calls Try.prog 8 #[.slice a0 l0 c0] w fun e w' => e = .returned (.bool true) ∧ Below w.heap.size w w' := by
  go_enter Try.func8, Try.ntmps8
  go_wp2_with fail
  refine (lawsDifferent a0 l0 c0 z0 w r0 b0).mono ?_
  rintro e w0 ⟨b, rfl, g0⟩
  have hs0 := g0.size
  cases b with
  | false =>
    go_wp2
    go_ret
    exact ⟨rfl, g0⟩
  | true =>
    have r1 := (r0.below g0).more hs0
    go_wp2_with fail
    refine (implMapCollect a0 l0 c0 z0 b0 f0 w0 r1).mono ?_
    rintro e w1 ⟨A1, m1, d1, ts, rfl, own1, htab1, hpl, hml, g1⟩
    have hs1 := g1.size
    have HT1 := hide htab1
    have HPL := hide hpl
    clear htab1 hpl
    go_wp2_with fail
    refine (lawsTable a0 l0 c0 z0 w1 ((r1.below g1).more hs1) b0).mono ?_
    rintro e w2 ⟨A2, d2, t, rfl, own2, htab, htl, g2⟩
    have hs2 := g2.size
    rw [HT1.out.unique htab] at own1
    clear htab
    go_wp2_with fail
    refine (equalE _ _ _ _ _ _ _ _ _ _ w2 ((Rd.of_own own1).below g2) (Rd.of_own own2) (by omega)).mono ?_
    rintro e w3 ⟨rfl, hd⟩
    go_wp2
    go_ret
    exact ⟨by simp, g0.trans ((g1.trans (g2.mono hs1)).trans (hd.below _) |>.mono hs0)⟩

set_option maxRecDepth 100000 in
theorem lifted (os : Os) (started : os.Started) (H : Type) (enc : TypeId × Value → H) :
    ReturnsInHanded {} Try.checked os 8 .any (Rows.fnMapCollectSpec.pre6 enc Try.prog Try.f8 Rows.fnMapCollectRow.domain false) (Rows.fnMapCollectSpec.post enc Try.prog Try.f8 false true false false) := by
  refine returnsInHanded_of_change_sized (C := Try.checked) own started (by kernel_rfl) Try.func8
    (ChangeSpec.witness6 (enc := enc) (C := Try.checked) false ⟨#[], #[.slice none 0 0], []⟩ 8 (by kernel_rfl) (by kernel_rfl) (by kernel_rfl) (by kernel_rfl)) ?_
  intro W base args ds gs before hval0 hW _ hsz0 _
  have hsz : (DataW.weightsEach Try.prog (Try.f8.params.toList ++ Rows.fnMapCollectSpec.plain.varTypes Try.prog) (ds ++ gs)).all (· ≤ reachBytes) = true := hsz0
  have hval : ∀ (j : Nat) t v, Try.f8.params[j]? = some t → args[j]? = some v → Value.okWide Try.prog W .any base t v := hval0
  have hW' := hW
  obtain ⟨p, q, hA0, hV, rfl, hfz, hnd⟩ := hW
  have hA : DataW.TrodAll enc Try.prog W 0 (fun _ => true) true Try.f8.params.toList args.toList ds p := hA0
  rw [Try.params8] at hA hval hsz
  obtain ⟨v0, vs0, d0, ds0, p0, q0, hargs, rfl, rfl, h0, rr0⟩ := trodAll_cons hA
  obtain ⟨rfl, rfl, rfl⟩ := trodAll_nil rr0
  obtain rfl : args = #[v0] := by cases args; simp_all
  obtain ⟨rfl, rfl⟩ := trodVars_none hV
  have t0 := h0
  have lt0 : ∀ x ∈ p0, x.block < W.heap.size := by obtain ⟨m, hm⟩ := t0; exact DataW.trod_lt m _ _ _ hm
  obtain ⟨a0, l0, c0, z0, rfl, k0, m0, r0, f0, u0, s0⟩ := openPairs (hval 0 22 v0 rfl rfl) h0
  have b0 := s0 (sized_at hsz 0 rfl rfl)
  refine (walk a0 l0 c0 z0 W k0 m0 r0 f0 b0).mono fun e W' ⟨he, bel⟩ => ?_
  subst he
  exact ⟨_, rfl, _, _, _, [], _, [], hW', trodAll_mk1 (shut_bool Try.underlying4 _), (trodAll_cons_mk (Below.trod laidOut (by kernel_rfl) (of_decide_eq_true (by kernel_rfl)) t0 bel lt0) trodAll_mk0), rfl, bel.frame _, fun h => by cases h⟩

theorem over : Rows.fnMapCollectRow.holds Try.pinned (OpenSpec.ofChange Rows.fnMapCollectSpec) :=
  OpenClaim.holds_of_wide 8 Try.f8 rfl rfl rfl rfl rfl rfl rfl ⟨rfl, rfl, rfl, rfl, rfl⟩ rfl rfl rfl rfl rfl (by kernel_rfl) Try.func8 (by kernel_rfl)
    (of_decide_eq_true (by kernel_rfl)) (by unfold Func.isWrapper; first | (rw [if_pos (by decide +kernel)]; kernel_rfl) | (rw [if_neg (by decide +kernel)]; exact ⟨rfl, rfl⟩))
    (fun os started H enc _ => lifted os started H enc)

/-- the given statement -/
theorem proved : Rows.FnMapCollectSaid := over
#print axioms proved
end Go.Proofs.Ytcgcfenenkdhlaa.fnMapCollect
