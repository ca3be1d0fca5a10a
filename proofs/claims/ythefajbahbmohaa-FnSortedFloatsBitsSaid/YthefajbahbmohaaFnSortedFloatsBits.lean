/-
  FnSortedFloatsBits: the law returns true at every input, and changes nothing that was there.
-/
import Derived.ProofKit
import Derived.OpenShut
import Derived.JoinedCond
import Derived.Deep.CondSized
import Derived.SizedLaws
import Derived.WalkKit
import Derived.WalkLawsBesides
import Derived.Outline
import Derived.Deep.DeepMust
import Derived.Deep.RegionWith
import Derived.Test.YthefajbahbmohaaOpen
import Derived.Test.YthefajbahbmohaaOpenU
import Derived.Test.YthefajbahbmohaaSFl
import Derived.Test.YthefajbahbmohaaCntU
namespace Go.Proofs.Ythefajbahbmohaa.fnSortedFloatsBits
open Go.ChangeShapes Go.WideShapes Go.ChangeAt Go.RowKit
set_option linter.unusedVariables false
set_option linter.unusedSimpArgs false

theorem low_u64 {x : Int} (h : (Lit.int .u64 x).wf = true) : 0 ≤ x := by
  simp [Lit.wf, IntKind.min, IntKind.signed] at h
  omega
set_option maxRecDepth 100000 in
set_option maxHeartbeats 4000000 in
theorem walk (a0 : Option Addr) (l0 c0 : Nat) (z0 : List Int) (w : World) (k0 : l0 ≤ c0) (m0 : c0 ≤ maxLen) (r0 : Rd w w.heap.size 1 a0 l0 (z0.map (Value.int .u64))) (f0 : ∀ x ∈ z0, (Lit.int .u64 x).wf = true) (b0 : l0 * 8 ≤ 140737488351232) :
    Calls Try.prog 12 #[.slice a0 l0 c0] w fun e w' => e = .returned (.bool true) ∧ Below w.heap.size w w' := by
  have hlen : l0 ≤ 9223372036854775806 := by omega
  have hpb : permB (outF z0) z0 = true := permB_of (outF_perm fun x hx => low_u64 (f0 x hx))
  have HPB := hide hpb
  clear hpb
  go_enter Try.func12, Try.ntmps12
  go_wp2_with fail
  refine (implSortedFloats a0 l0 c0 z0 b0 w r0).mono ?_
  rintro e w1 ⟨A1, d1, rfl, own1, g1⟩
  have hrd := Rd.of_own own1
  go_wp2_with fail
  refine (permutedU _ _ _ _ _ _ _ _ (outF z0) z0 w1 hrd (r0.below g1) hlen hlen).mono ?_
  rintro e w3 ⟨rfl, rfl⟩
  rw [HPB.out]
  go_wp2_with fail
  go_ret
  exact ⟨rfl, g1⟩

set_option maxRecDepth 100000 in
theorem lifted (os : Os) (started : os.Started) (H : Type) (enc : TypeId × Value → H) :
    ReturnsInHanded {} Try.checked os 12 .any (Rows.fnSortedFloatsBitsSpec.pre6 enc Try.prog Try.f12 Rows.fnSortedFloatsBitsRow.domain false) (Rows.fnSortedFloatsBitsSpec.post enc Try.prog Try.f12 false true false false) := by
  refine returnsInHanded_of_change_sized (C := Try.checked) own started (by kernel_rfl) Try.func12
    (ChangeSpec.witness6 (enc := enc) (C := Try.checked) false ⟨#[], #[.slice none 0 0], []⟩ 8 (by kernel_rfl) (by kernel_rfl) (by kernel_rfl) (by kernel_rfl)) ?_
  intro W base args ds gs before hval0 hW _ hsz0 _
  have hsz : (DataW.weightsEach Try.prog (Try.f12.params.toList ++ Rows.fnSortedFloatsBitsSpec.plain.varTypes Try.prog) (ds ++ gs)).all (· ≤ reachBytes) = true := hsz0
  have hval : ∀ (j : Nat) t v, Try.f12.params[j]? = some t → args[j]? = some v → Value.okWide Try.prog W .any base t v := hval0
  have hW' := hW
  obtain ⟨p, q, hA0, hV, rfl, hfz, hnd⟩ := hW
  have hA : DataW.TrodAll enc Try.prog W 0 (fun _ => true) true Try.f12.params.toList args.toList ds p := hA0
  rw [Try.params12] at hA hval hsz
  obtain ⟨v0, vs0, d0, ds0, p0, q0, hargs, rfl, rfl, h0, rr0⟩ := trodAll_cons hA
  obtain ⟨rfl, rfl, rfl⟩ := trodAll_nil rr0
  obtain rfl : args = #[v0] := by cases args; simp_all
  obtain ⟨rfl, rfl⟩ := trodVars_none hV
  have t0 := h0
  have lt0 : ∀ x ∈ p0, x.block < W.heap.size := by obtain ⟨m, hm⟩ := t0; exact DataW.trod_lt m _ _ _ hm
  obtain ⟨a0, l0, c0, z0, rfl, k0, m0, r0, f0, u0, s0⟩ := openU64s (hval 0 35 v0 rfl rfl) h0
  have b0 := s0 (sized_at hsz 0 rfl rfl)
  refine (walk a0 l0 c0 z0 W k0 m0 r0 f0 b0).mono fun e W' ⟨he, bel⟩ => ?_
  subst he
  exact ⟨_, rfl, _, _, _, [], _, [], hW', trodAll_mk1 (shut_bool Try.underlying4 _), (trodAll_cons_mk (Below.trod laidOut (by kernel_rfl) (of_decide_eq_true (by kernel_rfl)) t0 bel lt0) trodAll_mk0), rfl, bel.frame _, fun h => by cases h⟩

theorem over : Rows.fnSortedFloatsBitsRow.holds Try.pinned (OpenSpec.ofChange Rows.fnSortedFloatsBitsSpec) :=
  OpenClaim.holds_of_wide 12 Try.f12 rfl rfl rfl rfl rfl rfl rfl ⟨rfl, rfl, rfl, rfl, rfl⟩ rfl rfl rfl rfl rfl (by kernel_rfl) Try.func12 (by kernel_rfl)
    (of_decide_eq_true (by kernel_rfl)) (by unfold Func.isWrapper; first | (rw [if_pos (by decide +kernel)]; kernel_rfl) | (rw [if_neg (by decide +kernel)]; exact ⟨rfl, rfl⟩))
    (fun os started H enc _ => lifted os started H enc)

/-- the given statement -/
theorem proved : Rows.FnSortedFloatsBitsSaid := over
#print axioms proved
end Go.Proofs.Ythefajbahbmohaa.fnSortedFloatsBits
