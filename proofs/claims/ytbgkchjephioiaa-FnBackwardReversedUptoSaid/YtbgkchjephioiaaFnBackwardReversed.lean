/-
  FnBackwardReversed: the law returns true at every input of at most 1048576 values, and changes nothing that was there.
-/
import Derived.ProofKit
import Derived.OpenShut
import Derived.JoinedCond
import Derived.Deep.CondSized
import Derived.SizedLaws
import Derived.WalkKit
import Derived.WalkLawsBesides
import Derived.Outline
import Derived.Deep.DeepMust
import Derived.Test.YtbgkchjephioiaaOpen
import Derived.Test.YtbgkchjephioiaaPair
import Derived.Test.YtbgkchjephioiaaSpecP
import Derived.Test.YtbgkchjephioiaaRev
namespace Go.Proofs.Ytbgkchjephioiaa.fnBackwardReversed
open Go.ChangeShapes Go.WideShapes Go.ChangeAt Go.RowKit
set_option linter.unusedVariables false
set_option linter.unusedSimpArgs false

theorem walk (a0 : Option Addr) (l0 c0 : Nat) (z0 : List Int) (w : World) (k0 : l0 ≤ c0) (m0 : c0 ≤ maxLen) (r0 : Rd w w.heap.size 1 a0 l0 (ints z0)) (f0 : ∀ x ∈ z0, (Lit.int .i64 x).wf = true) (bu : l0 ≤ 1048576) :
    Calls Try.prog 13 #[.slice a0 l0 c0] w fun e w' => e = .returned (.bool true) ∧ Below w.heap.size w w' := by
  have hlen : l0 * 16 ≤ 140737488351232 := by omega
  have hzl : z0.length = l0 := by have := r0.1; simpa using this
  have hq : firstN z0.length (-1) = l0 := by unfold firstN; rw [if_neg (by omega)]; exact hzl
  have hrev : upto (bwd z0) l0 = (upto (fwd z0) l0).reverse := by rw [← hzl]; exact bwd_rev z0
  have c1 := callsIn_wide.1 (implBackward_in Fence.wide 3 trivial trivial trivial rfl (Nat.le_refl _) a0 l0 c0 z0 (-1) hlen w r0)
  rw [hq, hrev] at c1
  have c2 := fun w r => callsIn_wide.1 (implAll_in Fence.wide 3 trivial trivial trivial rfl (Nat.le_refl _) a0 l0 c0 z0 (-1) hlen w r)
  rw [hq] at c2
  have C1 := hide c1
  have C2 := hide c2
  clear c1 c2 hq hrev hzl
  have hll : ((l0 : Int) == (l0 : Int)) = true := by simp
  go_enter Try.func13, Try.ntmps13
  go_wp2_with fail
  refine (unhide C1).mono ?_
  rintro e w1 ⟨v1, rfl, own1, hb1⟩
  obtain ⟨A1, c1, rfl⟩ := own_slice own1
  have hs1 := hb1.size
  go_wp2_with fail
  refine ((unhide C2) w1 ((r0.below hb1).more hs1)).mono ?_
  rintro e w2 ⟨v2, rfl, own2, hb2⟩
  obtain ⟨A2, c2, rfl⟩ := own_slice own2
  have hs2 := hb2.size
  go_wp2_with fail
  refine (reversedPair A2 l0 c2 _ w2 (Rd.of_own own2) hlen).mono ?_
  rintro e w3 ⟨v3, rfl, own3, hb3⟩
  obtain ⟨A3, c3, rfl⟩ := own_slice own3
  go_wp2_with fail
  refine (equalPair _ _ _ _ _ _ _ _ _ _ w3 (((Rd.of_own own1).below hb2).below (hb3.mono hs2)) (Rd.of_own own3) (by omega)).mono ?_
  rintro e w4 ⟨rfl, hd⟩
  go_wp2_with fail
  go_ret
  exact ⟨by simp, ((hb1.trans (hb2.mono hs1)).trans (hb3.mono (Nat.le_trans hs1 hs2))).trans (hd.below _)⟩

set_option maxRecDepth 100000 in
theorem lifted (os : Os) (started : os.Started) (H : Type) (enc : TypeId × Value → H) (F : Stop.Interp) :
    ReturnsInHanded {} Try.checked os 13 .any ((Rows.OpenSpec.upto Rows.fnBackwardReversedSpec).pre6 enc Try.prog Try.f13 Rows.fnBackwardReversedUptoRow.domain false) (((Rows.OpenSpec.upto Rows.fnBackwardReversedSpec).at F).post enc Try.prog Try.f13 false true false false) := by
  refine returnsInHanded_of_cond (C := Try.checked) (s := (Rows.OpenSpec.upto Rows.fnBackwardReversedSpec)) (k := Rows.uptoSmall) rfl own started (by kernel_rfl) Try.func13
    (OpenSpec.witness (enc := enc) (C := Try.checked) (s := (Rows.OpenSpec.upto Rows.fnBackwardReversedSpec)) (k := Rows.uptoSmall) rfl false ⟨#[], #[.slice none 0 0], []⟩ 8 (by kernel_rfl) (by kernel_rfl) (by kernel_rfl)
      (x := ([.nil], [], [])) (by kernel_rfl) rfl (by kernel_rfl)) ?_
  intro W base args ds gs before hval0 hW _ hk0 _
  have hk := bulk_bound hk0
  have hval : ∀ (j : Nat) t v, Try.f13.params[j]? = some t → args[j]? = some v → Value.okWide Try.prog W .any base t v := hval0
  have hW' := hW
  obtain ⟨p, q, hA0, hV, rfl, hfz, hnd⟩ := hW
  have hA : DataW.TrodAll enc Try.prog W 0 (fun _ => true) true Try.f13.params.toList args.toList ds p := hA0
  rw [Try.params13] at hA hval
  obtain ⟨v0, vs0, d0, ds0, p0, q0, hargs, rfl, rfl, h0, rr0⟩ := trodAll_cons hA
  obtain ⟨rfl, rfl, rfl⟩ := trodAll_nil rr0
  obtain rfl : args = #[v0] := by cases args; simp_all
  obtain ⟨rfl, rfl⟩ := trodVars_none hV
  have t0 := h0
  have lt0 : ∀ x ∈ p0, x.block < W.heap.size := by obtain ⟨m, hm⟩ := t0; exact DataW.trod_lt m _ _ _ hm
  obtain ⟨a0, l0, c0, z0, rfl, k0, m0, r0, f0, u0, s0⟩ := openInts (hval 0 22 v0 rfl rfl) h0
  simp only [List.cons_append, List.nil_append, List.append_nil, Rows.uptoBulkAll] at hk
  have bu : l0 ≤ 1048576 := by omega
  refine (walk a0 l0 c0 z0 W k0 m0 r0 f0 bu).mono fun e W' ⟨he, bel⟩ => ?_
  subst he
  exact ⟨_, rfl, _, _, _, [], _, [], hW', trodAll_mk1 (shut_bool Try.underlying4 _), (trodAll_cons_mk (Below.trod laidOut (by kernel_rfl) (of_decide_eq_true (by kernel_rfl)) t0 bel lt0) trodAll_mk0), rfl, bel.frame _, fun h => by cases h⟩

theorem over : Rows.fnBackwardReversedUptoRow.holds Try.pinned (Rows.OpenSpec.upto Rows.fnBackwardReversedSpec) :=
  OpenClaim.holds_of_cond 13 Try.f13 rfl rfl rfl rfl rfl rfl rfl ⟨rfl, rfl, rfl, rfl, rfl⟩ rfl rfl rfl rfl rfl (by kernel_rfl) Try.func13 (by kernel_rfl)
    (of_decide_eq_true (by kernel_rfl)) (by unfold Func.isWrapper; first | (rw [if_pos (by decide +kernel)]; kernel_rfl) | (rw [if_neg (by decide +kernel)]; exact ⟨rfl, rfl⟩))
    (fun os started H enc _ F => lifted os started H enc F)

/-- the given statement -/
theorem proved : Rows.FnBackwardReversedUptoSaid := over
#print axioms proved
end Go.Proofs.Ytbgkchjephioiaa.fnBackwardReversed
