/-
  FnSortedFuncAny: the law returns true at every input, and changes nothing that was there.
-/
import Derived.ProofKit
import Derived.OpenShut
import Derived.JoinedCond
import Derived.Deep.CondSized
import Derived.SizedLaws
import Derived.WalkKit
import Derived.WalkLawsBesides
import Derived.Outline
import Derived.Deep.DeepMust
import Derived.Deep.RegionWith
import Derived.Test.YtiocgmeonfanmaaOpen
import Derived.Test.YtiocgmeonfanmaaOpenO
import Derived.Test.YtiocgmeonfanmaaOpenP
import Derived.Test.YtiocgmeonfanmaaSoF
import Derived.Test.YtiocgmeonfanmaaCntI
namespace Go.Proofs.Ytiocgmeonfanmaa.fnSortedFuncAny
open Go.ChangeShapes Go.WideShapes Go.ChangeAt Go.RowKit
set_option linter.unusedVariables false
set_option linter.unusedSimpArgs false

set_option maxRecDepth 100000 in
set_option maxHeartbeats 4000000 in
theorem walk (a0 : Option Addr) (l0 c0 : Nat) (z0 : List (Int × Int)) (s1 : Int) (a1 : Option Addr) (l1 c1 : Nat) (z1 : List Int) (w : World) (k0 : l0 ≤ c0) (m0 : c0 ≤ maxLen) (r0 : Rd w w.heap.size 2 a0 l0 (pairs z0)) (f0 : ∀ x ∈ z0, (Lit.int .i64 x.1).wf = true ∧ (Lit.int .i64 x.2).wf = true) (g1 : (Lit.int .i64 s1).wf = true) (k1 : l1 ≤ c1) (m1 : c1 ≤ maxLen) (r1 : Rd w w.heap.size 1 a1 l1 (ints z1)) (f1 : ∀ x ∈ z1, (Lit.int .i64 x).wf = true) (b0 : l0 * 16 ≤ 140737488351232) (b1 : l1 * 8 ≤ 140737488351232) :
    Calls Try.prog 9 #[.slice a0 l0 c0, .agg #[.int .i64 s1, .slice a1 l1 c1]] w fun e w' => e = .returned (.bool true) ∧ Below w.heap.size w w' := by
  have HE : Hid ((decide (z0 = []) == ((l0 : Int) == 0)) = true) := hide (by
    have hz : z0.length = l0 := by have := r0.1; rw [pairs_length] at this; omega
    cases z0 with
    | nil => subst hz; rfl
    | cons p z => subst hz; simp; omega)
  go_enter Try.func9, Try.ntmps9
  go_wp2_with fail
  obtain ⟨w1, hw1⟩ : ∃ w1, w1 = w.alloc (.cells #[.int .i64 s1, .slice a1 l1 c1] 25) := ⟨_, rfl⟩
  have g1 : Below w.heap.size w w1 := by rw [hw1]; exact (Below.refl _ w).alloc (Nat.le_refl _) _
  rw [← hw1]
  clear hw1
  refine (implSortedFunc a0 l0 c0 z0 s1 a1 l1 c1 z1 b0 (by unfold maxLen at *; omega) w1 ((r0.below g1).more g1.size) ((r1.below g1).more g1.size)).mono ?_
  rintro _ w2 ⟨A2, d2, ts, rfl, hp, hst, own2, g2⟩
  have HP := hide hp
  have q2 := Rd.of_own own2
  have G2 : Below w.heap.size w w2 := g1.trans (g2.mono g1.size)
  have p2 := (r0.below G2).more G2.size
  clear hp hst own2
  have HC := hide (permutedI A2 a0 l0 d2 c0 w2.heap.size w2.heap.size ts z0 w2 q2 (Nat.le_refl _) p2 (Nat.le_refl _) HP.out (by omega))
  clear q2 p2 HP
  go_wp2_with fail
  refine HC.out.mono ?_
  rintro _ w3 ⟨rfl, g3⟩
  go_wp2_with fail
  go_ret
  exact ⟨congrArg (fun b => Ending.returned (Value.bool b)) HE.out, G2.trans (g3.mono G2.size)⟩

set_option maxRecDepth 100000 in
theorem lifted (os : Os) (started : os.Started) (H : Type) (enc : TypeId × Value → H) :
    ReturnsInHanded {} Try.checked os 9 .any (Rows.fnSortedFuncAnySpec.pre6 enc Try.prog Try.f9 Rows.fnSortedFuncAnyRow.domain false) (Rows.fnSortedFuncAnySpec.post enc Try.prog Try.f9 false true false false) := by
  refine returnsInHanded_of_change_sized (C := Try.checked) own started (by kernel_rfl) Try.func9
    (ChangeSpec.witness6 (enc := enc) (C := Try.checked) false ⟨#[], #[.slice none 0 0, .agg #[.int .i64 0, .slice none 0 0]], []⟩ 8 (by kernel_rfl) (by kernel_rfl) (by kernel_rfl) (by kernel_rfl)) ?_
  intro W base args ds gs before hval0 hW _ hsz0 _
  have hsz : (DataW.weightsEach Try.prog (Try.f9.params.toList ++ Rows.fnSortedFuncAnySpec.plain.varTypes Try.prog) (ds ++ gs)).all (· ≤ reachBytes) = true := hsz0
  have hval : ∀ (j : Nat) t v, Try.f9.params[j]? = some t → args[j]? = some v → Value.okWide Try.prog W .any base t v := hval0
  have hW' := hW
  obtain ⟨p, q, hA0, hV, rfl, hfz, hnd⟩ := hW
  have hA : DataW.TrodAll enc Try.prog W 0 (fun _ => true) true Try.f9.params.toList args.toList ds p := hA0
  rw [Try.params9] at hA hval hsz
  obtain ⟨v0, vs0, d0, ds0, p0, q0, hargs, rfl, rfl, h0, rr0⟩ := trodAll_cons hA
  obtain ⟨v1, vs1, d1, ds1, p1, q1, rfl, rfl, rfl, h1, rr1⟩ := trodAll_cons rr0
  obtain ⟨rfl, rfl, rfl⟩ := trodAll_nil rr1
  obtain rfl : args = #[v0, v1] := by cases args; simp_all
  obtain ⟨rfl, rfl⟩ := trodVars_none hV
  have t0 := h0
  have lt0 : ∀ x ∈ p0, x.block < W.heap.size := by obtain ⟨m, hm⟩ := t0; exact DataW.trod_lt m _ _ _ hm
  obtain ⟨a0, l0, c0, z0, rfl, k0, m0, r0, f0, u0, s0⟩ := openPairs (hval 0 22 v0 rfl rfl) h0
  have b0 := s0 (sized_at hsz 0 rfl rfl)
  have t1 := h1
  have lt1 : ∀ x ∈ p1, x.block < W.heap.size := by obtain ⟨m, hm⟩ := t1; exact DataW.trod_lt m _ _ _ hm
  obtain ⟨s1, a1, l1, c1, z1, rfl, g1, k1, m1, r1, f1, u1, sz1⟩ := openOrder (hval 1 25 v1 rfl rfl) h1
  have b1 := sz1 (sized_at hsz 1 rfl rfl)
  refine (walk a0 l0 c0 z0 s1 a1 l1 c1 z1 W k0 m0 r0 f0 g1 k1 m1 r1 f1 b0 b1).mono fun e W' ⟨he, bel⟩ => ?_
  subst he
  exact ⟨_, rfl, _, _, _, [], _, [], hW', trodAll_mk1 (shut_bool Try.underlying4 _), (trodAll_cons_mk (Below.trod laidOut (by kernel_rfl) (of_decide_eq_true (by kernel_rfl)) t0 bel lt0) (trodAll_cons_mk (Below.trod laidOut (by kernel_rfl) (of_decide_eq_true (by kernel_rfl)) t1 bel lt1) trodAll_mk0)), rfl, bel.frame _, fun h => by cases h⟩

theorem over : Rows.fnSortedFuncAnyRow.holds Try.pinned (OpenSpec.ofChange Rows.fnSortedFuncAnySpec) :=
  OpenClaim.holds_of_wide 9 Try.f9 rfl rfl rfl rfl rfl rfl rfl ⟨rfl, rfl, rfl, rfl, rfl⟩ rfl rfl rfl rfl rfl (by kernel_rfl) Try.func9 (by kernel_rfl)
    (of_decide_eq_true (by kernel_rfl)) (by unfold Func.isWrapper; first | (rw [if_pos (by decide +kernel)]; kernel_rfl) | (rw [if_neg (by decide +kernel)]; exact ⟨rfl, rfl⟩))
    (fun os started H enc _ => lifted os started H enc)

/-- the given statement -/
theorem proved : Rows.FnSortedFuncAnySaid := over
#print axioms proved
end Go.Proofs.Ytiocgmeonfanmaa.fnSortedFuncAny
