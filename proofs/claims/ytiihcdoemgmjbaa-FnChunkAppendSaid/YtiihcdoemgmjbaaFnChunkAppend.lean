/-
  FnChunkAppend: the law returns true at every input, and changes nothing that was there.
-/
import Derived.ProofKit
import Derived.OpenShut
import Derived.JoinedCond
import Derived.Deep.CondSized
import Derived.SizedLaws
import Derived.WalkKit
import Derived.WalkLawsBesides
import Derived.Outline
import Derived.Deep.DeepMust
import Derived.Test.YtiihcdoemgmjbaaOpen
import Derived.Test.YtiihcdoemgmjbaaChkA
import Derived.Test.YtiihcdoemgmjbaaSpec
namespace Go.Proofs.Ytiihcdoemgmjbaa.fnChunkAppend
open Go.ChangeShapes Go.WideShapes Go.ChangeAt Go.RowKit
set_option linter.unusedVariables false
set_option linter.unusedSimpArgs false

set_option maxRecDepth 100000 in
set_option maxHeartbeats 4000000 in
theorem walk (a0 : Option Addr) (l0 c0 : Nat) (z0 : List Int) (a1 : Int) (a2 : Int) (a3 : Int) (w : World) (k0 : l0 ≤ c0) (m0 : c0 ≤ maxLen) (r0 : Rd w w.heap.size 1 a0 l0 (ints z0)) (f0 : ∀ x ∈ z0, (Lit.int .i64 x).wf = true) (f1 : (Lit.int .i64 a1).wf = true) (f2 : (Lit.int .i64 a2).wf = true) (f3 : (Lit.int .i64 a3).wf = true) (b0 : l0 * 8 ≤ 140737488351232) :
    Calls Try.prog 5 #[.slice a0 l0 c0, .int .i64 a1, .int .i64 a2, .int .i64 a3] w fun e w' => e = .returned (.bool true) ∧ Below w.heap.size w w' := by
  have hlen : l0 ≤ 17592186043904 := by omega
  obtain ⟨hlo, hhi⟩ := bounds_i64 f1
  clear f1 f2 f3
  by_cases hneg : a1 < 1
  · have hd : decide (a1 < 1) = true := by simpa using hneg
    have HP := hide (implChunkAppend_panic a0 l0 c0 z0 a1 a2 a3 b0 hneg w r0)
    go_enter Try.func5, Try.ntmps5
    go_wp2_with fail
    refine HP.out.mono ?_
    rintro e w1 ⟨rfl, g1⟩
    go_wp2_with fail
    go_ret
    exact ⟨by simp, g1⟩
  · obtain ⟨c, rfl⟩ : ∃ c : Nat, a1 = (c : Int) := ⟨a1.toNat, by omega⟩
    have hd : decide ((c : Int) < 1) = false := by simpa using hneg
    have hd2 : ¬ ((c : Int) < 1) := hneg
    have q1 : 1 ≤ c := by omega
    have q2 : c ≤ 9223372036854775807 := by omega
    clear hneg
    go_enter Try.func5, Try.ntmps5
    go_wp2_with fail
    refine (implChunkAppend a0 l0 c0 z0 c a2 a3 b0 q1 q2 w r0).mono ?_
    rintro e w1 ⟨A1, d1, rfl, own1, g1⟩
    go_wp2_with fail
    refine (equalIntT _ _ _ _ _ _ _ _ _ w1 own1 (r0.below g1) (by omega)).mono ?_
    rintro e w3 ⟨rfl, hd3⟩
    go_wp2_with fail
    go_ret
    exact ⟨by simp, g1.trans (hd3.below _)⟩

set_option maxRecDepth 100000 in
theorem lifted (os : Os) (started : os.Started) (H : Type) (enc : TypeId × Value → H) :
    ReturnsInHanded {} Try.checked os 5 .any (Rows.fnChunkAppendSpec.pre6 enc Try.prog Try.f5 Rows.fnChunkAppendRow.domain false) (Rows.fnChunkAppendSpec.post enc Try.prog Try.f5 false true false false) := by
  refine returnsInHanded_of_change_sized (C := Try.checked) own started (by kernel_rfl) Try.func5
    (ChangeSpec.witness6 (enc := enc) (C := Try.checked) false ⟨#[], #[.slice none 0 0, .int .i64 0, .int .i64 0, .int .i64 0], []⟩ 8 (by kernel_rfl) (by kernel_rfl) (by kernel_rfl) (by kernel_rfl)) ?_
  intro W base args ds gs before hval0 hW _ hsz0 _
  have hsz : (DataW.weightsEach Try.prog (Try.f5.params.toList ++ Rows.fnChunkAppendSpec.plain.varTypes Try.prog) (ds ++ gs)).all (· ≤ reachBytes) = true := hsz0
  have hval : ∀ (j : Nat) t v, Try.f5.params[j]? = some t → args[j]? = some v → Value.okWide Try.prog W .any base t v := hval0
  have hW' := hW
  obtain ⟨p, q, hA0, hV, rfl, hfz, hnd⟩ := hW
  have hA : DataW.TrodAll enc Try.prog W 0 (fun _ => true) true Try.f5.params.toList args.toList ds p := hA0
  rw [Try.params5] at hA hval hsz
  obtain ⟨v0, vs0, d0, ds0, p0, q0, hargs, rfl, rfl, h0, rr0⟩ := trodAll_cons hA
  obtain ⟨v1, vs1, d1, ds1, p1, q1, rfl, rfl, rfl, h1, rr1⟩ := trodAll_cons rr0
  obtain ⟨v2, vs2, d2, ds2, p2, q2, rfl, rfl, rfl, h2, rr2⟩ := trodAll_cons rr1
  obtain ⟨v3, vs3, d3, ds3, p3, q3, rfl, rfl, rfl, h3, rr3⟩ := trodAll_cons rr2
  obtain ⟨rfl, rfl, rfl⟩ := trodAll_nil rr3
  obtain rfl : args = #[v0, v1, v2, v3] := by cases args; simp_all
  obtain ⟨rfl, rfl⟩ := trodVars_none hV
  have t0 := h0
  have lt0 : ∀ x ∈ p0, x.block < W.heap.size := by obtain ⟨m, hm⟩ := t0; exact DataW.trod_lt m _ _ _ hm
  obtain ⟨a0, l0, c0, z0, rfl, k0, m0, r0, f0, u0, s0⟩ := openInts (hval 0 22 v0 rfl rfl) h0
  have b0 := s0 (sized_at hsz 0 rfl rfl)
  have t1 := h1
  have lt1 : ∀ x ∈ p1, x.block < W.heap.size := by obtain ⟨m, hm⟩ := t1; exact DataW.trod_lt m _ _ _ hm
  obtain ⟨a1, rfl, hd1, hp1, f1⟩ := open_int Try.underlying3 (hval 1 3 v1 rfl rfl) h1
  have u1 := bulk_one d1
  have t2 := h2
  have lt2 : ∀ x ∈ p2, x.block < W.heap.size := by obtain ⟨m, hm⟩ := t2; exact DataW.trod_lt m _ _ _ hm
  obtain ⟨a2, rfl, hd2, hp2, f2⟩ := open_int Try.underlying3 (hval 2 3 v2 rfl rfl) h2
  have u2 := bulk_one d2
  have t3 := h3
  have lt3 : ∀ x ∈ p3, x.block < W.heap.size := by obtain ⟨m, hm⟩ := t3; exact DataW.trod_lt m _ _ _ hm
  obtain ⟨a3, rfl, hd3, hp3, f3⟩ := open_int Try.underlying3 (hval 3 3 v3 rfl rfl) h3
  have u3 := bulk_one d3
  refine (walk a0 l0 c0 z0 a1 a2 a3 W k0 m0 r0 f0 f1 f2 f3 b0).mono fun e W' ⟨he, bel⟩ => ?_
  subst he
  exact ⟨_, rfl, _, _, _, [], _, [], hW', trodAll_mk1 (shut_bool Try.underlying4 _), (trodAll_cons_mk (Below.trod laidOut (by kernel_rfl) (of_decide_eq_true (by kernel_rfl)) t0 bel lt0) (trodAll_cons_mk (Below.trod laidOut (by kernel_rfl) (of_decide_eq_true (by kernel_rfl)) t1 bel lt1) (trodAll_cons_mk (Below.trod laidOut (by kernel_rfl) (of_decide_eq_true (by kernel_rfl)) t2 bel lt2) (trodAll_cons_mk (Below.trod laidOut (by kernel_rfl) (of_decide_eq_true (by kernel_rfl)) t3 bel lt3) trodAll_mk0)))), rfl, bel.frame _, fun h => by cases h⟩

theorem over : Rows.fnChunkAppendRow.holds Try.pinned (OpenSpec.ofChange Rows.fnChunkAppendSpec) :=
  OpenClaim.holds_of_wide 5 Try.f5 rfl rfl rfl rfl rfl rfl rfl ⟨rfl, rfl, rfl, rfl, rfl⟩ rfl rfl rfl rfl rfl (by kernel_rfl) Try.func5 (by kernel_rfl)
    (of_decide_eq_true (by kernel_rfl)) (by unfold Func.isWrapper; first | (rw [if_pos (by decide +kernel)]; kernel_rfl) | (rw [if_neg (by decide +kernel)]; exact ⟨rfl, rfl⟩))
    (fun os started H enc _ => lifted os started H enc)

/-- the given statement -/
theorem proved : Rows.FnChunkAppendSaid := over
#print axioms proved
end Go.Proofs.Ytiihcdoemgmjbaa.fnChunkAppend
