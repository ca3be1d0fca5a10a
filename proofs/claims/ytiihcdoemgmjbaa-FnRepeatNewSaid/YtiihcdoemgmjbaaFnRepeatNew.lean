/-
  FnRepeatNew: the law returns true at every input, and changes nothing that was there.
-/
import Derived.ProofKit
import Derived.OpenShut
import Derived.JoinedCond
import Derived.Deep.CondSized
import Derived.SizedLaws
import Derived.WalkKit
import Derived.WalkLawsBesides
import Derived.Outline
import Derived.Deep.DeepMust
import Derived.Test.YtiihcdoemgmjbaaOpen
import Derived.Test.YtiihcdoemgmjbaaRepN
import Derived.Test.YtiihcdoemgmjbaaRepS
import Derived.Test.YtiihcdoemgmjbaaSpec
namespace Go.Proofs.Ytiihcdoemgmjbaa.fnRepeatNew
open Go.ChangeShapes Go.WideShapes Go.ChangeAt Go.RowKit
set_option linter.unusedVariables false
set_option linter.unusedSimpArgs false

set_option maxRecDepth 100000 in
set_option maxHeartbeats 4000000 in
theorem walk (a0 : Option Addr) (l0 c0 : Nat) (z0 : List Int) (a1 : Int) (a2 : Int) (w : World) (k0 : l0 ≤ c0) (m0 : c0 ≤ maxLen) (r0 : Rd w w.heap.size 1 a0 l0 (ints z0)) (f0 : ∀ x ∈ z0, (Lit.int .i64 x).wf = true) (f1 : (Lit.int .i64 a1).wf = true) (f2 : (Lit.int .i64 a2).wf = true) (b0 : l0 * 8 ≤ 140737488351232) :
    Calls Try.prog 12 #[.slice a0 l0 c0, .int .i64 a1, .int .i64 a2] w fun e w' => e = .returned (.bool true) ∧ Below w.heap.size w w' := by
  have hlen : l0 ≤ 17592186043904 := by omega
  obtain ⟨hlo, hhi⟩ := bounds_i64 f1
  clear f1 f2
  by_cases hneg : a1 < 0
  · have HP : Hid (∀ a' cap' w, Calls Try.prog 35 #[.slice a' l0 cap', .int .i64 a1] w fun e w' => (∃ u pv, e = .panicked [{ v := .iface u pv, recovered := false }]) ∧ w' = w) := fun a' cap' w => repeatNeg a' l0 cap' a1 hneg w
    go_enter Try.func12, Try.ntmps12
    go_wp2_with fail
    refine (implRepeatNew_panic a0 l0 c0 z0 a1 a2 b0 HP.out w r0).mono ?_
    rintro e w1 ⟨rfl, g1⟩
    go_wp2_with fail
    go_ret
    exact ⟨by simp, g1⟩
  · obtain ⟨cnt, rfl⟩ : ∃ cnt : Nat, a1 = (cnt : Int) := ⟨a1.toNat, by omega⟩
    have hcnt : cnt ≤ 9223372036854775807 := by omega
    have hnn : decide ((cnt : Int) < 0) = false := by simp
    obtain ⟨N, hN⟩ : ∃ N, N = cnt * l0 := ⟨_, rfl⟩
    have hNi : (l0 : Int) * (cnt : Int) = (N : Int) := by rw [hN, Int.mul_comm]; simp
    have hso := fun w => specOverflows l0 cnt (by omega) w
    rw [show l0 * cnt = N by rw [hN, Nat.mul_comm]] at hso
    by_cases hov : 9223372036854775807 < N
    · have hdt : decide (9223372036854775807 < N) = true := by simpa using hov
      simp only [hdt] at hso
      have HSO := hide hso
      have HP : Hid (∀ a' cap' w, Calls Try.prog 35 #[.slice a' l0 cap', .int .i64 cnt] w fun e w' => (∃ u pv, e = .panicked [{ v := .iface u pv, recovered := false }]) ∧ w' = w) := fun a' cap' w => repeatOver a' l0 cap' cnt (by omega) hcnt (by rw [Nat.mul_comm, ← hN]; exact hov) w
      clear hso hN hNi hov hdt hneg
      go_enter Try.func12, Try.ntmps12
      go_wp2_with fail
      refine (HSO.out _).mono ?_
      rintro e w1 ⟨rfl, rfl⟩
      go_wp2_with fail
      refine (implRepeatNew_panic a0 l0 c0 z0 cnt a2 b0 HP.out w r0).mono ?_
      rintro e w1 ⟨rfl, g1⟩
      go_wp2_with fail
      go_ret
      exact ⟨by simp, g1⟩
    · have hdt : decide (9223372036854775807 < N) = false := by simpa using hov
      simp only [hdt] at hso
      have HSO := hide hso
      have hwN : IntKind.i64.wrap (N : Int) = (N : Int) := IntWalk.i64_in _ (by omega)
      have HN := hide hN
      clear hso hN hov hdt hneg
      by_cases hbig : 65536 < N
      · have hbi : (65536 : Int) < (N : Int) := by omega
        go_enter Try.func12, Try.ntmps12
        go_wp2_with fail
        refine (HSO.out _).mono ?_
        rintro e w1 ⟨rfl, rfl⟩
        go_wp2_with fail
        go_ret
        exact ⟨by simp, Below.refl _ _⟩
      · have hbi : decide ((65536 : Int) < (N : Int)) = false := by simp; omega
        have hbi2 : ¬ ((65536 : Int) < (N : Int)) := by omega
        have hb8 : N * 8 ≤ 140737488351232 := by omega
        go_enter Try.func12, Try.ntmps12
        go_wp2_with fail
        refine (HSO.out _).mono ?_
        rintro e w1 ⟨rfl, rfl⟩
        go_wp2_with fail
        refine (implRepeatNew a0 l0 c0 z0 cnt N a2 HN.out hb8 b0 hcnt w r0).mono ?_
        rintro e w1 ⟨A1, d1, rfl, own1, g1⟩
        have hs1 := g1.size
        go_wp2_with fail
        refine (equalIntT _ _ _ _ _ _ _ _ _ w1 own1 (r0.below g1) (by omega)).mono ?_
        rintro e w3 ⟨rfl, hd⟩
        go_wp2_with fail
        go_ret
        exact ⟨by simp, g1.trans (hd.below _)⟩

set_option maxRecDepth 100000 in
theorem lifted (os : Os) (started : os.Started) (H : Type) (enc : TypeId × Value → H) :
    ReturnsInHanded {} Try.checked os 12 .any (Rows.fnRepeatNewSpec.pre6 enc Try.prog Try.f12 Rows.fnRepeatNewRow.domain false) (Rows.fnRepeatNewSpec.post enc Try.prog Try.f12 false true false false) := by
  refine returnsInHanded_of_change_sized (C := Try.checked) own started (by kernel_rfl) Try.func12
    (ChangeSpec.witness6 (enc := enc) (C := Try.checked) false ⟨#[], #[.slice none 0 0, .int .i64 0, .int .i64 0], []⟩ 8 (by kernel_rfl) (by kernel_rfl) (by kernel_rfl) (by kernel_rfl)) ?_
  intro W base args ds gs before hval0 hW _ hsz0 _
  have hsz : (DataW.weightsEach Try.prog (Try.f12.params.toList ++ Rows.fnRepeatNewSpec.plain.varTypes Try.prog) (ds ++ gs)).all (· ≤ reachBytes) = true := hsz0
  have hval : ∀ (j : Nat) t v, Try.f12.params[j]? = some t → args[j]? = some v → Value.okWide Try.prog W .any base t v := hval0
  have hW' := hW
  obtain ⟨p, q, hA0, hV, rfl, hfz, hnd⟩ := hW
  have hA : DataW.TrodAll enc Try.prog W 0 (fun _ => true) true Try.f12.params.toList args.toList ds p := hA0
  rw [Try.params12] at hA hval hsz
  obtain ⟨v0, vs0, d0, ds0, p0, q0, hargs, rfl, rfl, h0, rr0⟩ := trodAll_cons hA
  obtain ⟨v1, vs1, d1, ds1, p1, q1, rfl, rfl, rfl, h1, rr1⟩ := trodAll_cons rr0
  obtain ⟨v2, vs2, d2, ds2, p2, q2, rfl, rfl, rfl, h2, rr2⟩ := trodAll_cons rr1
  obtain ⟨rfl, rfl, rfl⟩ := trodAll_nil rr2
  obtain rfl : args = #[v0, v1, v2] := by cases args; simp_all
  obtain ⟨rfl, rfl⟩ := trodVars_none hV
  have t0 := h0
  have lt0 : ∀ x ∈ p0, x.block < W.heap.size := by obtain ⟨m, hm⟩ := t0; exact DataW.trod_lt m _ _ _ hm
  obtain ⟨a0, l0, c0, z0, rfl, k0, m0, r0, f0, u0, s0⟩ := openInts (hval 0 22 v0 rfl rfl) h0
  have b0 := s0 (sized_at hsz 0 rfl rfl)
  have t1 := h1
  have lt1 : ∀ x ∈ p1, x.block < W.heap.size := by obtain ⟨m, hm⟩ := t1; exact DataW.trod_lt m _ _ _ hm
  obtain ⟨a1, rfl, hd1, hp1, f1⟩ := open_int Try.underlying3 (hval 1 3 v1 rfl rfl) h1
  have u1 := bulk_one d1
  have t2 := h2
  have lt2 : ∀ x ∈ p2, x.block < W.heap.size := by obtain ⟨m, hm⟩ := t2; exact DataW.trod_lt m _ _ _ hm
  obtain ⟨a2, rfl, hd2, hp2, f2⟩ := open_int Try.underlying3 (hval 2 3 v2 rfl rfl) h2
  have u2 := bulk_one d2
  refine (walk a0 l0 c0 z0 a1 a2 W k0 m0 r0 f0 f1 f2 b0).mono fun e W' ⟨he, bel⟩ => ?_
  subst he
  exact ⟨_, rfl, _, _, _, [], _, [], hW', trodAll_mk1 (shut_bool Try.underlying4 _), (trodAll_cons_mk (Below.trod laidOut (by kernel_rfl) (of_decide_eq_true (by kernel_rfl)) t0 bel lt0) (trodAll_cons_mk (Below.trod laidOut (by kernel_rfl) (of_decide_eq_true (by kernel_rfl)) t1 bel lt1) (trodAll_cons_mk (Below.trod laidOut (by kernel_rfl) (of_decide_eq_true (by kernel_rfl)) t2 bel lt2) trodAll_mk0))), rfl, bel.frame _, fun h => by cases h⟩

theorem over : Rows.fnRepeatNewRow.holds Try.pinned (OpenSpec.ofChange Rows.fnRepeatNewSpec) :=
  OpenClaim.holds_of_wide 12 Try.f12 rfl rfl rfl rfl rfl rfl rfl ⟨rfl, rfl, rfl, rfl, rfl⟩ rfl rfl rfl rfl rfl (by kernel_rfl) Try.func12 (by kernel_rfl)
    (of_decide_eq_true (by kernel_rfl)) (by unfold Func.isWrapper; first | (rw [if_pos (by decide +kernel)]; kernel_rfl) | (rw [if_neg (by decide +kernel)]; exact ⟨rfl, rfl⟩))
    (fun os started H enc _ => lifted os started H enc)

/-- the given statement -/
theorem proved : Rows.FnRepeatNewSaid := over
#print axioms proved
end Go.Proofs.Ytiihcdoemgmjbaa.fnRepeatNew
