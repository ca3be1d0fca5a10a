/-
  FnChunkCount: the law returns true at every input of at most 1048576 values, and changes nothing that was there.
-/
import Derived.ProofKit
import Derived.OpenShut
import Derived.JoinedCond
import Derived.Deep.CondSized
import Derived.SizedLaws
import Derived.WalkKit
import Derived.WalkLawsBesides
import Derived.Outline
import Derived.Deep.DeepMust
import Derived.Test.YtiihcdoemgmjbaaOpen
import Derived.Test.YtiihcdoemgmjbaaChkI
import Derived.Test.YtiihcdoemgmjbaaChkP
namespace Go.Proofs.Ytiihcdoemgmjbaa.fnChunkCount
open Go.ChangeShapes Go.WideShapes Go.ChangeAt Go.RowKit
set_option linter.unusedVariables false
set_option linter.unusedSimpArgs false

set_option maxRecDepth 100000 in
set_option maxHeartbeats 4000000 in
theorem walk (a0 : Option Addr) (l0 c0 : Nat) (z0 : List Int) (a1 : Int) (w : World) (k0 : l0 ≤ c0) (m0 : c0 ≤ maxLen) (r0 : Rd w w.heap.size 1 a0 l0 (ints z0)) (f0 : ∀ x ∈ z0, (Lit.int .i64 x).wf = true) (f1 : (Lit.int .i64 a1).wf = true) (bu : l0 ≤ 1048576) :
    Calls Try.prog 4 #[.slice a0 l0 c0, .int .i64 a1] w fun e w' => e = .returned (.bool true) ∧ Below w.heap.size w w' := by
  have hlen : l0 ≤ 4194304 := by omega
  obtain ⟨hlo, hhi⟩ := bounds_i64 f1
  clear f1 bu
  by_cases hneg : a1 < 1
  · have hd : decide (a1 < 1) = true := by simpa using hneg
    have HP := hide (implChunk_panic a0 l0 c0 a1 (-1) hneg w)
    go_enter Try.func4, Try.ntmps4
    go_wp2_with fail
    refine HP.out.mono ?_
    rintro e w1 ⟨rfl, g1⟩
    go_wp2_with fail
    go_ret
    exact ⟨by simp, g1⟩
  · obtain ⟨c, rfl⟩ : ∃ c : Nat, a1 = (c : Int) := ⟨a1.toNat, by omega⟩
    have hd : decide ((c : Int) < 1) = false := by simpa using hneg
    have hd2 : ¬ ((c : Int) < 1) := hneg
    have q1 : 1 ≤ c := by omega
    have q2 : c ≤ 9223372036854775807 := by omega
    clear hneg
    have himp := implChunk a0 l0 c0 z0 c (-1) hlen k0 q1 q2 w r0
    rw [firstN_neg, nCh_div q1] at himp
    obtain ⟨q, hq⟩ : ∃ q, l0 / c = q := ⟨_, rfl⟩
    obtain ⟨r, hr⟩ : ∃ r, l0 % c = r := ⟨_, rfl⟩
    rw [hq, hr] at himp
    have hqi : (l0 : Int) / (c : Int) = (q : Int) := by rw [← hq]; simp
    have hqt : Int.tdiv (l0 : Int) (c : Int) = (q : Int) := by rw [← hq]; rfl
    have hri : (l0 : Int) % (c : Int) = (r : Int) := by rw [← hr]; simp
    have hrt : Int.tmod (l0 : Int) (c : Int) = (r : Int) := by rw [← hr]; rfl
    have hql : q ≤ l0 := by rw [← hq]; exact Nat.div_le_self _ _
    have hcz : ((c : Int) == 0) = false := by simp; omega
    have hcz2 : ¬ ((c : Int) = 0) := by omega
    have hwq : IntKind.i64.wrap (q : Int) = (q : Int) := IntWalk.i64_in _ (by omega)
    by_cases hr0 : 0 < r
    · have hri0 : (0 : Int) < (r : Int) := by omega
      rw [if_pos hr0] at himp
      have HIM := hide himp
      have hqq : ((q : Int) + 1 == (q : Int) + 1) = true := by simp
      clear himp
      go_enter Try.func4, Try.ntmps4
      go_wp2_with fail
      refine HIM.out.mono ?_
      rintro e w1 ⟨A1, d1, rs1, A2, d2, rfl, _, _, _, g1⟩
      go_wp2_with fail
      go_ret
      exact ⟨by simp, g1⟩
    · have hri0 : ¬ (0 : Int) < (r : Int) := by omega
      rw [if_neg hr0, Nat.add_zero] at himp
      have HIM := hide himp
      have hqq : ((q : Int) == (q : Int)) = true := by simp
      clear himp
      go_enter Try.func4, Try.ntmps4
      go_wp2_with fail
      refine HIM.out.mono ?_
      rintro e w1 ⟨A1, d1, rs1, A2, d2, rfl, _, _, _, g1⟩
      go_wp2_with fail
      go_ret
      exact ⟨by simp, g1⟩

set_option maxRecDepth 100000 in
theorem lifted (os : Os) (started : os.Started) (H : Type) (enc : TypeId × Value → H) (F : Stop.Interp) :
    ReturnsInHanded {} Try.checked os 4 .any ((Rows.OpenSpec.upto Rows.fnChunkCountSpec).pre6 enc Try.prog Try.f4 Rows.fnChunkCountUptoRow.domain false) (((Rows.OpenSpec.upto Rows.fnChunkCountSpec).at F).post enc Try.prog Try.f4 false true false false) := by
  refine returnsInHanded_of_cond (C := Try.checked) (s := (Rows.OpenSpec.upto Rows.fnChunkCountSpec)) (k := Rows.uptoSmall) rfl own started (by kernel_rfl) Try.func4
    (OpenSpec.witness (enc := enc) (C := Try.checked) (s := (Rows.OpenSpec.upto Rows.fnChunkCountSpec)) (k := Rows.uptoSmall) rfl false ⟨#[], #[.slice none 0 0, .int .i64 0], []⟩ 8 (by kernel_rfl) (by kernel_rfl) (by kernel_rfl)
      (x := ([.nil, .lit (.int .i64 0)], [], [])) (by kernel_rfl) rfl (by kernel_rfl)) ?_
  intro W base args ds gs before hval0 hW _ hk0 _
  have hk := bulk_bound hk0
  have hval : ∀ (j : Nat) t v, Try.f4.params[j]? = some t → args[j]? = some v → Value.okWide Try.prog W .any base t v := hval0
  have hW' := hW
  obtain ⟨p, q, hA0, hV, rfl, hfz, hnd⟩ := hW
  have hA : DataW.TrodAll enc Try.prog W 0 (fun _ => true) true Try.f4.params.toList args.toList ds p := hA0
  rw [Try.params4] at hA hval
  obtain ⟨v0, vs0, d0, ds0, p0, q0, hargs, rfl, rfl, h0, rr0⟩ := trodAll_cons hA
  obtain ⟨v1, vs1, d1, ds1, p1, q1, rfl, rfl, rfl, h1, rr1⟩ := trodAll_cons rr0
  obtain ⟨rfl, rfl, rfl⟩ := trodAll_nil rr1
  obtain rfl : args = #[v0, v1] := by cases args; simp_all
  obtain ⟨rfl, rfl⟩ := trodVars_none hV
  have t0 := h0
  have lt0 : ∀ x ∈ p0, x.block < W.heap.size := by obtain ⟨m, hm⟩ := t0; exact DataW.trod_lt m _ _ _ hm
  obtain ⟨a0, l0, c0, z0, rfl, k0, m0, r0, f0, u0, s0⟩ := openInts (hval 0 22 v0 rfl rfl) h0
  have t1 := h1
  have lt1 : ∀ x ∈ p1, x.block < W.heap.size := by obtain ⟨m, hm⟩ := t1; exact DataW.trod_lt m _ _ _ hm
  obtain ⟨a1, rfl, hd1, hp1, f1⟩ := open_int Try.underlying3 (hval 1 3 v1 rfl rfl) h1
  have u1 := bulk_one d1
  simp only [List.cons_append, List.nil_append, List.append_nil, Rows.uptoBulkAll] at hk
  have bu : l0 ≤ 1048576 := by omega
  refine (walk a0 l0 c0 z0 a1 W k0 m0 r0 f0 f1 bu).mono fun e W' ⟨he, bel⟩ => ?_
  subst he
  exact ⟨_, rfl, _, _, _, [], _, [], hW', trodAll_mk1 (shut_bool Try.underlying4 _), (trodAll_cons_mk (Below.trod laidOut (by kernel_rfl) (of_decide_eq_true (by kernel_rfl)) t0 bel lt0) (trodAll_cons_mk (Below.trod laidOut (by kernel_rfl) (of_decide_eq_true (by kernel_rfl)) t1 bel lt1) trodAll_mk0)), rfl, bel.frame _, fun h => by cases h⟩

theorem over : Rows.fnChunkCountUptoRow.holds Try.pinned (Rows.OpenSpec.upto Rows.fnChunkCountSpec) :=
  OpenClaim.holds_of_cond 4 Try.f4 rfl rfl rfl rfl rfl rfl rfl ⟨rfl, rfl, rfl, rfl, rfl⟩ rfl rfl rfl rfl rfl (by kernel_rfl) Try.func4 (by kernel_rfl)
    (of_decide_eq_true (by kernel_rfl)) (by unfold Func.isWrapper; first | (rw [if_pos (by decide +kernel)]; kernel_rfl) | (rw [if_neg (by decide +kernel)]; exact ⟨rfl, rfl⟩))
    (fun os started H enc _ F => lifted os started H enc F)

/-- the given statement -/
theorem proved : Rows.FnChunkCountUptoSaid := over
#print axioms proved
end Go.Proofs.Ytiihcdoemgmjbaa.fnChunkCount
