/-
  FnValuesTwice: the law returns true at every input, and changes nothing that was there.
-/
import Derived.ProofKit
import Derived.OpenShut
import Derived.JoinedCond
import Derived.Deep.CondSized
import Derived.SizedLaws
import Derived.WalkKit
import Derived.WalkLawsBesides
import Derived.Outline
import Derived.Deep.DeepMust
import Derived.Test.YtbgkchjephioiaaOpen
import Derived.Test.YtbgkchjephioiaaTwice
import Derived.Test.YtbgkchjephioiaaSpec
namespace Go.Proofs.Ytbgkchjephioiaa.fnValuesTwice
open Go.ChangeShapes Go.WideShapes Go.ChangeAt Go.RowKit
set_option linter.unusedVariables false
set_option linter.unusedSimpArgs false

set_option maxRecDepth 100000 in
set_option maxHeartbeats 4000000 in
theorem walk (a0 : Option Addr) (l0 c0 : Nat) (z0 : List Int) (a1 : Int) (w : World) (k0 : l0 ≤ c0) (m0 : c0 ≤ maxLen) (r0 : Rd w w.heap.size 1 a0 l0 (ints z0)) (f0 : ∀ x ∈ z0, (Lit.int .i64 x).wf = true) (f1 : (Lit.int .i64 a1).wf = true) (b0 : l0 * 8 ≤ 140737488351232) :
    Calls Try.prog 6 #[.slice a0 l0 c0, .int .i64 a1] w fun e w' => e = .returned (.bool true) ∧ Below w.heap.size w w' := by
  have hlen : l0 ≤ 9223372036854775807 := by omega
  have hzl : z0.length = l0 := by have := r0.1; simpa using this
  have HZ := hide hzl
  obtain ⟨f, hf⟩ : ∃ f, firstN z0.length a1 = f := ⟨_, rfl⟩
  have hfl : f ≤ 9223372036854775807 := by rw [← hf]; exact Nat.le_trans (firstN_le _ _) (by omega)
  have e1 := callsIn_wide.1 (implTwice_in Fence.wide 3 trivial trivial trivial rfl (Nat.le_refl _) a0 l0 c0 z0 a1 b0 w r0)
  have e2 := fun w r => specValues a0 l0 c0 z0 a1 b0 w r
  rw [hf, hzl] at e1
  rw [hf] at e2
  have E1 := hide e1
  have E2 := hide e2
  clear hzl hf e1 e2
  go_enter Try.func6, Try.ntmps6
  go_wp2_with fail
  refine (unhide E1).mono ?_
  rintro e w1 ⟨A1, d1, A2, d2, rfl, own1, own2, g1⟩
  have hs1 := g1.size
  go_wp2_with fail
  refine ((unhide E2) w1 ((r0.below g1).more hs1)).mono ?_
  rintro e w2 ⟨v2, rfl, own3, g2⟩
  obtain ⟨A3, d3, rfl⟩ := own_slice own3
  have hs2 := g2.size
  have g02 : Below w.heap.size w w2 := g1.trans (g2.mono hs1)
  go_wp2_with fail
  refine (equalIntT _ _ _ _ _ _ _ _ _ w2 ((Rd.of_own own1).below g2) (Rd.of_own own3) hfl).mono ?_
  rintro e w3 ⟨rfl, hd3⟩
  go_wp2_with fail
  refine (equalIntT _ _ _ _ _ _ _ _ _ w3 (((Rd.of_own own2).below g2).ofDrew hd3) ((r0.below g02).ofDrew hd3) hlen).mono ?_
  rintro e w4 ⟨rfl, hd4⟩
  go_wp2_with fail
  go_ret
  exact ⟨by simp, (g02.trans (hd3.below _)).trans (hd4.below _)⟩

set_option maxRecDepth 100000 in
theorem lifted (os : Os) (started : os.Started) (H : Type) (enc : TypeId × Value → H) :
    ReturnsInHanded {} Try.checked os 6 .any (Rows.fnValuesTwiceSpec.pre6 enc Try.prog Try.f6 Rows.fnValuesTwiceRow.domain false) (Rows.fnValuesTwiceSpec.post enc Try.prog Try.f6 false true false false) := by
  refine returnsInHanded_of_change_sized (C := Try.checked) own started (by kernel_rfl) Try.func6
    (ChangeSpec.witness6 (enc := enc) (C := Try.checked) false ⟨#[], #[.slice none 0 0, .int .i64 0], []⟩ 8 (by kernel_rfl) (by kernel_rfl) (by kernel_rfl) (by kernel_rfl)) ?_
  intro W base args ds gs before hval0 hW _ hsz0 _
  have hsz : (DataW.weightsEach Try.prog (Try.f6.params.toList ++ Rows.fnValuesTwiceSpec.plain.varTypes Try.prog) (ds ++ gs)).all (· ≤ reachBytes) = true := hsz0
  have hval : ∀ (j : Nat) t v, Try.f6.params[j]? = some t → args[j]? = some v → Value.okWide Try.prog W .any base t v := hval0
  have hW' := hW
  obtain ⟨p, q, hA0, hV, rfl, hfz, hnd⟩ := hW
  have hA : DataW.TrodAll enc Try.prog W 0 (fun _ => true) true Try.f6.params.toList args.toList ds p := hA0
  rw [Try.params6] at hA hval hsz
  obtain ⟨v0, vs0, d0, ds0, p0, q0, hargs, rfl, rfl, h0, rr0⟩ := trodAll_cons hA
  obtain ⟨v1, vs1, d1, ds1, p1, q1, rfl, rfl, rfl, h1, rr1⟩ := trodAll_cons rr0
  obtain ⟨rfl, rfl, rfl⟩ := trodAll_nil rr1
  obtain rfl : args = #[v0, v1] := by cases args; simp_all
  obtain ⟨rfl, rfl⟩ := trodVars_none hV
  have t0 := h0
  have lt0 : ∀ x ∈ p0, x.block < W.heap.size := by obtain ⟨m, hm⟩ := t0; exact DataW.trod_lt m _ _ _ hm
  obtain ⟨a0, l0, c0, z0, rfl, k0, m0, r0, f0, u0, s0⟩ := openInts (hval 0 22 v0 rfl rfl) h0
  have b0 := s0 (sized_at hsz 0 rfl rfl)
  have t1 := h1
  have lt1 : ∀ x ∈ p1, x.block < W.heap.size := by obtain ⟨m, hm⟩ := t1; exact DataW.trod_lt m _ _ _ hm
  obtain ⟨a1, rfl, hd1, hp1, f1⟩ := open_int Try.underlying3 (hval 1 3 v1 rfl rfl) h1
  have u1 := bulk_one d1
  refine (walk a0 l0 c0 z0 a1 W k0 m0 r0 f0 f1 b0).mono fun e W' ⟨he, bel⟩ => ?_
  subst he
  exact ⟨_, rfl, _, _, _, [], _, [], hW', trodAll_mk1 (shut_bool Try.underlying4 _), (trodAll_cons_mk (Below.trod laidOut (by kernel_rfl) (of_decide_eq_true (by kernel_rfl)) t0 bel lt0) (trodAll_cons_mk (Below.trod laidOut (by kernel_rfl) (of_decide_eq_true (by kernel_rfl)) t1 bel lt1) trodAll_mk0)), rfl, bel.frame _, fun h => by cases h⟩

theorem over : Rows.fnValuesTwiceRow.holds Try.pinned (OpenSpec.ofChange Rows.fnValuesTwiceSpec) :=
  OpenClaim.holds_of_wide 6 Try.f6 rfl rfl rfl rfl rfl rfl rfl ⟨rfl, rfl, rfl, rfl, rfl⟩ rfl rfl rfl rfl rfl (by kernel_rfl) Try.func6 (by kernel_rfl)
    (of_decide_eq_true (by kernel_rfl)) (by unfold Func.isWrapper; first | (rw [if_pos (by decide +kernel)]; kernel_rfl) | (rw [if_neg (by decide +kernel)]; exact ⟨rfl, rfl⟩))
    (fun os started H enc _ => lifted os started H enc)

/-- the given statement -/
theorem proved : Rows.FnValuesTwiceSaid := over
#print axioms proved
end Go.Proofs.Ytbgkchjephioiaa.fnValuesTwice
