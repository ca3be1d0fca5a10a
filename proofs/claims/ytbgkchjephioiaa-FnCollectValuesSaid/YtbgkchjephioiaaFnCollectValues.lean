/-
  FnCollectValues: the law returns true at every input, and changes nothing that was there.
-/
import Derived.ProofKit
import Derived.OpenShut
import Derived.JoinedCond
import Derived.Deep.CondSized
import Derived.SizedLaws
import Derived.WalkKit
import Derived.WalkLawsBesides
import Derived.Outline
import Derived.Deep.DeepMust
import Derived.Test.YtbgkchjephioiaaOpen
import Derived.Test.YtbgkchjephioiaaVal
import Derived.Test.YtbgkchjephioiaaApp
import Derived.Test.YtbgkchjephioiaaSpec
namespace Go.Proofs.Ytbgkchjephioiaa.fnCollectValues
open Go.ChangeShapes Go.WideShapes Go.ChangeAt Go.RowKit
set_option linter.unusedVariables false
set_option linter.unusedSimpArgs false

theorem valuesAll (a : Option Addr) (len cap : Nat) (zs : List Int) (hreach : len * 8 ≤ 140737488351232) (w : World) (hI : Rd w w.heap.size 1 a len (ints zs)) :
    Calls Try.prog 24 #[.slice a len cap, .int .i64 (-1)] w fun e W' => ∃ A' c', e = .returned (.slice A' len c') ∧ W'.ownsRow w.heap.size 3 1 (.slice A' len c') len (ints zs) ∧ Below w.heap.size w W' := by
  have hzl : zs.length = len := by have := hI.1; simpa using this
  have hq : firstN zs.length (-1) = len := by unfold firstN; rw [if_neg (by omega)]; exact hzl
  refine (callsIn_wide.1 (implValues_in Fence.wide 3 trivial trivial trivial rfl (Nat.le_refl _) a len cap zs (-1) hreach w hI)).mono ?_
  rintro e w1 ⟨v1, rfl, own1, hb1⟩
  rw [hq, List.take_of_length_le (by omega)] at own1
  obtain ⟨A1, c1, rfl⟩ := own_slice own1
  exact ⟨A1, c1, rfl, own1, hb1⟩
theorem walk (a0 : Option Addr) (l0 c0 : Nat) (z0 : List Int) (w : World) (k0 : l0 ≤ c0) (m0 : c0 ≤ maxLen) (r0 : Rd w w.heap.size 1 a0 l0 (ints z0)) (f0 : ∀ x ∈ z0, (Lit.int .i64 x).wf = true) (b0 : l0 * 8 ≤ 140737488351232) :
    Calls Try.prog 14 #[.slice a0 l0 c0] w fun e w' => e = .returned (.bool true) ∧ Below w.heap.size w w' := by
  have hlen : l0 ≤ 9223372036854775807 := by omega
  have hzl : z0.length = l0 := by have := r0.1; simpa using this
  have HZ := hide hzl
  clear hzl
  go_enter Try.func14, Try.ntmps14
  go_wp2_with fail
  refine (valuesAll a0 l0 c0 z0 b0 w r0).mono ?_
  rintro e w1 ⟨A1, c1, rfl, own1, hb1⟩
  have hs1 := hb1.size
  go_wp2_with fail
  refine (implCollect A1 l0 c1 z0 b0 w1 (Rd.of_own own1)).mono ?_
  rintro e w2 ⟨A2, c2, rfl, own2, hb2⟩
  have hs2 := hb2.size
  have ro : Rd w2 w2.heap.size 1 A2 z0.length (ints z0) := Rd.of_own own2
  have rl : Rd w2 w2.heap.size 1 a0 l0 (ints z0) := ((r0.below hb1).below (hb2.mono hs1)).more (by omega)
  go_wp2_with fail
  refine (equalIntT _ _ _ _ _ _ _ _ _ w2 ro rl (by rw [HZ.out]; exact hlen)).mono ?_
  rintro e w3 ⟨rfl, hd3⟩
  have hh3 := hd3.heap
  have hs3 : w2.heap.size ≤ w3.heap.size := by rw [hh3]; exact Nat.le_refl _
  have HH := hide hh3
  clear hh3
  go_wp2_with fail
  refine (valuesAll A2 z0.length c2 z0 (by rw [HZ.out]; exact b0) w3 ((ro.ofDrew hd3).more hs3)).mono ?_
  rintro e w4 ⟨A4, c4, rfl, own4, hb4⟩
  have hs4 := hb4.size
  go_wp2_with fail
  refine (valuesAll a0 l0 c0 z0 b0 w4 (((rl.ofDrew hd3).more hs3).below hb4 |>.more hs4)).mono ?_
  rintro e w5 ⟨A5, c5, rfl, own5, hb5⟩
  go_wp2_with fail
  refine (equalIntT _ _ _ _ _ _ _ _ _ w5 ((Rd.of_own own4).below hb5) (Rd.of_own own5) (by rw [HZ.out]; exact hlen)).mono ?_
  rintro e w6 ⟨rfl, hd6⟩
  go_wp2_with fail
  go_ret
  exact ⟨by simp, ((((hb1.trans (hb2.mono hs1)).trans (hd3.below _)).trans (hb4.mono (by omega))).trans (hb5.mono (by omega))).trans (hd6.below _)⟩

set_option maxRecDepth 100000 in
theorem lifted (os : Os) (started : os.Started) (H : Type) (enc : TypeId × Value → H) :
    ReturnsInHanded {} Try.checked os 14 .any (Rows.fnCollectValuesSpec.pre6 enc Try.prog Try.f14 Rows.fnCollectValuesRow.domain false) (Rows.fnCollectValuesSpec.post enc Try.prog Try.f14 false true false false) := by
  refine returnsInHanded_of_change_sized (C := Try.checked) own started (by kernel_rfl) Try.func14
    (ChangeSpec.witness6 (enc := enc) (C := Try.checked) false ⟨#[], #[.slice none 0 0], []⟩ 8 (by kernel_rfl) (by kernel_rfl) (by kernel_rfl) (by kernel_rfl)) ?_
  intro W base args ds gs before hval0 hW _ hsz0 _
  have hsz : (DataW.weightsEach Try.prog (Try.f14.params.toList ++ Rows.fnCollectValuesSpec.plain.varTypes Try.prog) (ds ++ gs)).all (· ≤ reachBytes) = true := hsz0
  have hval : ∀ (j : Nat) t v, Try.f14.params[j]? = some t → args[j]? = some v → Value.okWide Try.prog W .any base t v := hval0
  have hW' := hW
  obtain ⟨p, q, hA0, hV, rfl, hfz, hnd⟩ := hW
  have hA : DataW.TrodAll enc Try.prog W 0 (fun _ => true) true Try.f14.params.toList args.toList ds p := hA0
  rw [Try.params14] at hA hval hsz
  obtain ⟨v0, vs0, d0, ds0, p0, q0, hargs, rfl, rfl, h0, rr0⟩ := trodAll_cons hA
  obtain ⟨rfl, rfl, rfl⟩ := trodAll_nil rr0
  obtain rfl : args = #[v0] := by cases args; simp_all
  obtain ⟨rfl, rfl⟩ := trodVars_none hV
  have t0 := h0
  have lt0 : ∀ x ∈ p0, x.block < W.heap.size := by obtain ⟨m, hm⟩ := t0; exact DataW.trod_lt m _ _ _ hm
  obtain ⟨a0, l0, c0, z0, rfl, k0, m0, r0, f0, u0, s0⟩ := openInts (hval 0 22 v0 rfl rfl) h0
  have b0 := s0 (sized_at hsz 0 rfl rfl)
  refine (walk a0 l0 c0 z0 W k0 m0 r0 f0 b0).mono fun e W' ⟨he, bel⟩ => ?_
  subst he
  exact ⟨_, rfl, _, _, _, [], _, [], hW', trodAll_mk1 (shut_bool Try.underlying4 _), (trodAll_cons_mk (Below.trod laidOut (by kernel_rfl) (of_decide_eq_true (by kernel_rfl)) t0 bel lt0) trodAll_mk0), rfl, bel.frame _, fun h => by cases h⟩

theorem over : Rows.fnCollectValuesRow.holds Try.pinned (OpenSpec.ofChange Rows.fnCollectValuesSpec) :=
  OpenClaim.holds_of_wide 14 Try.f14 rfl rfl rfl rfl rfl rfl rfl ⟨rfl, rfl, rfl, rfl, rfl⟩ rfl rfl rfl rfl rfl (by kernel_rfl) Try.func14 (by kernel_rfl)
    (of_decide_eq_true (by kernel_rfl)) (by unfold Func.isWrapper; first | (rw [if_pos (by decide +kernel)]; kernel_rfl) | (rw [if_neg (by decide +kernel)]; exact ⟨rfl, rfl⟩))
    (fun os started H enc _ => lifted os started H enc)

/-- the given statement -/
theorem proved : Rows.FnCollectValuesSaid := over
#print axioms proved
end Go.Proofs.Ytbgkchjephioiaa.fnCollectValues
