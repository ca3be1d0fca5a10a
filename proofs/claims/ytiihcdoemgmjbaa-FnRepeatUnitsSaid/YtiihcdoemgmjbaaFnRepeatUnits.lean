/-
  FnRepeatUnits: the law returns true at every input, and changes nothing that was there.
-/
import Derived.ProofKit
import Derived.OpenShut
import Derived.JoinedCond
import Derived.Deep.CondSized
import Derived.SizedLaws
import Derived.WalkKit
import Derived.WalkLawsBesides
import Derived.Outline
import Derived.Deep.DeepMust
import Derived.Test.YtiihcdoemgmjbaaOpen
import Derived.Test.YtiihcdoemgmjbaaRepU
import Derived.Test.YtiihcdoemgmjbaaRepS
namespace Go.Proofs.Ytiihcdoemgmjbaa.fnRepeatUnits
open Go.ChangeShapes Go.WideShapes Go.ChangeAt Go.RowKit
set_option linter.unusedVariables false
set_option linter.unusedSimpArgs false

set_option maxRecDepth 100000 in
set_option maxHeartbeats 4000000 in
theorem walk (a0 : Int) (a1 : Int) (w : World) (f0 : (Lit.int .i64 a0).wf = true) (f1 : (Lit.int .i64 a1).wf = true)  :
    Calls Try.prog 10 #[.int .i64 a0, .int .i64 a1] w fun e w' => e = .returned (.bool true) ∧ Below w.heap.size w w' := by
  obtain ⟨hlo0, hhi0⟩ := bounds_i64 f0
  obtain ⟨hlo, hhi⟩ := bounds_i64 f1
  clear f0 f1
  by_cases hn0 : a0 < 0
  · have hmx : (0 : Int) > a0 := hn0
    have hmx2 : a0 < 0 := hn0
    by_cases hneg : a1 < 0
    · have HP : Hid (∀ a' cap' w, Calls Try.prog 37 #[.slice a' 0 cap', .int .i64 a1] w fun e w' => (∃ u pv, e = .panicked [{ v := .iface u pv, recovered := false }]) ∧ w' = w) := fun a' cap' w => repeatNegU a' 0 cap' a1 hneg w
      have hd : decide (a1 < 0) = true := by simpa using hneg
      have HI := hide (implRepeatUnits_panic 0 a1 (by omega) HP.out w)
      go_enter Try.func10, Try.ntmps10
      go_wp2_with fail
      refine HI.out.mono ?_
      rintro e w1 ⟨rfl, g1⟩
      go_wp2_with fail
      go_ret
      exact ⟨by simp, g1⟩
    obtain ⟨cnt, rfl⟩ : ∃ cnt : Nat, a1 = (cnt : Int) := ⟨a1.toNat, by omega⟩
    have hcnt : cnt ≤ 9223372036854775807 := by omega
    have hnn : decide ((cnt : Int) < 0) = false := by simp
    have hso := fun w => specOverflows 0 cnt (by omega) w
    simp only [Nat.zero_mul, show decide (9223372036854775807 < 0) = false from rfl] at hso
    have HSO := hide hso
    have HI := hide (implRepeatUnits 0 cnt 0 (by simp) (by omega) (by omega) hcnt w)
    clear hso hneg
    go_enter Try.func10, Try.ntmps10
    go_wp2_with fail
    refine (HSO.out _).mono ?_
    rintro e w1 ⟨rfl, rfl⟩
    go_wp2_with fail
    refine HI.out.mono ?_
    rintro e w1 ⟨rfl, g1⟩
    go_wp2_with fail
    go_ret
    exact ⟨by simp, g1⟩
  · obtain ⟨n, rfl⟩ : ∃ n : Nat, a0 = (n : Int) := ⟨a0.toNat, by omega⟩
    have hmx : ¬ ((n : Int) < 0) := by omega
    have hn : n ≤ 9223372036854775807 := by omega
    clear hn0
    by_cases hneg : a1 < 0
    · have HP : Hid (∀ a' cap' w, Calls Try.prog 37 #[.slice a' n cap', .int .i64 a1] w fun e w' => (∃ u pv, e = .panicked [{ v := .iface u pv, recovered := false }]) ∧ w' = w) := fun a' cap' w => repeatNegU a' n cap' a1 hneg w
      have hd : decide (a1 < 0) = true := by simpa using hneg
      have HI := hide (implRepeatUnits_panic n a1 (by omega) HP.out w)
      go_enter Try.func10, Try.ntmps10
      go_wp2_with fail
      refine HI.out.mono ?_
      rintro e w1 ⟨rfl, g1⟩
      go_wp2_with fail
      go_ret
      exact ⟨by simp, g1⟩
    obtain ⟨cnt, rfl⟩ : ∃ cnt : Nat, a1 = (cnt : Int) := ⟨a1.toNat, by omega⟩
    have hcnt : cnt ≤ 9223372036854775807 := by omega
    have hnn : decide ((cnt : Int) < 0) = false := by simp
    obtain ⟨N, hN⟩ : ∃ N, N = cnt * n := ⟨_, rfl⟩
    have hNi : (n : Int) * (cnt : Int) = (N : Int) := by rw [hN, Int.mul_comm]; simp
    have hso := fun w => specOverflows n cnt hn w
    rw [show n * cnt = N by rw [hN, Nat.mul_comm]] at hso
    by_cases hov : 9223372036854775807 < N
    · have hdt : decide (9223372036854775807 < N) = true := by simpa using hov
      simp only [hdt] at hso
      have HSO := hide hso
      have HP : Hid (∀ a' cap' w, Calls Try.prog 37 #[.slice a' n cap', .int .i64 cnt] w fun e w' => (∃ u pv, e = .panicked [{ v := .iface u pv, recovered := false }]) ∧ w' = w) := fun a' cap' w => repeatOverU a' n cap' cnt hn hcnt (by rw [Nat.mul_comm, ← hN]; exact hov) w
      have HI := hide (implRepeatUnits_panic n cnt hn HP.out w)
      clear hso hN hNi hov hdt hneg
      go_enter Try.func10, Try.ntmps10
      go_wp2_with fail
      refine (HSO.out _).mono ?_
      rintro e w1 ⟨rfl, rfl⟩
      go_wp2_with fail
      refine HI.out.mono ?_
      rintro e w1 ⟨rfl, g1⟩
      go_wp2_with fail
      go_ret
      exact ⟨by simp, g1⟩
    have hdt : decide (9223372036854775807 < N) = false := by simpa using hov
    simp only [hdt] at hso
    have HSO := hide hso
    have hwN : IntKind.i64.wrap (N : Int) = (N : Int) := IntWalk.i64_in _ (by omega)
    have HI := hide (implRepeatUnits n cnt N hN (by omega) hn hcnt w)
    have hee : ((N : Int) == (N : Int)) = true := by simp
    clear hso hN hov hdt hneg
    go_enter Try.func10, Try.ntmps10
    go_wp2_with fail
    refine (HSO.out _).mono ?_
    rintro e w1 ⟨rfl, rfl⟩
    go_wp2_with fail
    refine HI.out.mono ?_
    rintro e w1 ⟨rfl, g1⟩
    go_wp2_with fail
    go_ret
    exact ⟨by simp, g1⟩

set_option maxRecDepth 100000 in
theorem lifted (os : Os) (started : os.Started) (H : Type) (enc : TypeId × Value → H) :
    ReturnsInHanded {} Try.checked os 10 .any (Rows.fnRepeatUnitsSpec.pre6 enc Try.prog Try.f10 Rows.fnRepeatUnitsRow.domain false) (Rows.fnRepeatUnitsSpec.post enc Try.prog Try.f10 false true false false) := by
  refine returnsInHanded_of_change_sized (C := Try.checked) own started (by kernel_rfl) Try.func10
    (ChangeSpec.witness6 (enc := enc) (C := Try.checked) false ⟨#[], #[.int .i64 0, .int .i64 0], []⟩ 8 (by kernel_rfl) (by kernel_rfl) (by kernel_rfl) (by kernel_rfl)) ?_
  intro W base args ds gs before hval0 hW _ hsz0 _
  have hsz : (DataW.weightsEach Try.prog (Try.f10.params.toList ++ Rows.fnRepeatUnitsSpec.plain.varTypes Try.prog) (ds ++ gs)).all (· ≤ reachBytes) = true := hsz0
  have hval : ∀ (j : Nat) t v, Try.f10.params[j]? = some t → args[j]? = some v → Value.okWide Try.prog W .any base t v := hval0
  have hW' := hW
  obtain ⟨p, q, hA0, hV, rfl, hfz, hnd⟩ := hW
  have hA : DataW.TrodAll enc Try.prog W 0 (fun _ => true) true Try.f10.params.toList args.toList ds p := hA0
  rw [Try.params10] at hA hval hsz
  obtain ⟨v0, vs0, d0, ds0, p0, q0, hargs, rfl, rfl, h0, rr0⟩ := trodAll_cons hA
  obtain ⟨v1, vs1, d1, ds1, p1, q1, rfl, rfl, rfl, h1, rr1⟩ := trodAll_cons rr0
  obtain ⟨rfl, rfl, rfl⟩ := trodAll_nil rr1
  obtain rfl : args = #[v0, v1] := by cases args; simp_all
  obtain ⟨rfl, rfl⟩ := trodVars_none hV
  have t0 := h0
  have lt0 : ∀ x ∈ p0, x.block < W.heap.size := by obtain ⟨m, hm⟩ := t0; exact DataW.trod_lt m _ _ _ hm
  obtain ⟨a0, rfl, hd0, hp0, f0⟩ := open_int Try.underlying3 (hval 0 3 v0 rfl rfl) h0
  have u0 := bulk_one d0
  have t1 := h1
  have lt1 : ∀ x ∈ p1, x.block < W.heap.size := by obtain ⟨m, hm⟩ := t1; exact DataW.trod_lt m _ _ _ hm
  obtain ⟨a1, rfl, hd1, hp1, f1⟩ := open_int Try.underlying3 (hval 1 3 v1 rfl rfl) h1
  have u1 := bulk_one d1
  refine (walk a0 a1 W f0 f1 ).mono fun e W' ⟨he, bel⟩ => ?_
  subst he
  exact ⟨_, rfl, _, _, _, [], _, [], hW', trodAll_mk1 (shut_bool Try.underlying4 _), (trodAll_cons_mk (Below.trod laidOut (by kernel_rfl) (of_decide_eq_true (by kernel_rfl)) t0 bel lt0) (trodAll_cons_mk (Below.trod laidOut (by kernel_rfl) (of_decide_eq_true (by kernel_rfl)) t1 bel lt1) trodAll_mk0)), rfl, bel.frame _, fun h => by cases h⟩

theorem over : Rows.fnRepeatUnitsRow.holds Try.pinned (OpenSpec.ofChange Rows.fnRepeatUnitsSpec) :=
  OpenClaim.holds_of_wide 10 Try.f10 rfl rfl rfl rfl rfl rfl rfl ⟨rfl, rfl, rfl, rfl, rfl⟩ rfl rfl rfl rfl rfl (by kernel_rfl) Try.func10 (by kernel_rfl)
    (of_decide_eq_true (by kernel_rfl)) (by unfold Func.isWrapper; first | (rw [if_pos (by decide +kernel)]; kernel_rfl) | (rw [if_neg (by decide +kernel)]; exact ⟨rfl, rfl⟩))
    (fun os started H enc _ => lifted os started H enc)

/-- the given statement -/
theorem proved : Rows.FnRepeatUnitsSaid := over
#print axioms proved
end Go.Proofs.Ytiihcdoemgmjbaa.fnRepeatUnits
