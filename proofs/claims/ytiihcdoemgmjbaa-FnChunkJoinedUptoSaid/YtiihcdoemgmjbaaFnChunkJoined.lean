/-
  FnChunkJoined: the law returns true at every input of at most 1048576 values, and changes nothing that was there.
-/
import Derived.ProofKit
import Derived.OpenShut
import Derived.JoinedCond
import Derived.Deep.CondSized
import Derived.SizedLaws
import Derived.WalkKit
import Derived.WalkLawsBesides
import Derived.Outline
import Derived.Deep.DeepMust
import Derived.Test.YtiihcdoemgmjbaaOpen
import Derived.Test.YtiihcdoemgmjbaaChkI
import Derived.Test.YtiihcdoemgmjbaaChkP
import Derived.Test.YtiihcdoemgmjbaaCon
namespace Go.Proofs.Ytiihcdoemgmjbaa.fnChunkJoined
open Go.ChangeShapes Go.WideShapes Go.ChangeAt Go.RowKit
set_option linter.unusedVariables false
set_option linter.unusedSimpArgs false

set_option maxRecDepth 100000 in
set_option maxHeartbeats 4000000 in
theorem walk (a0 : Option Addr) (l0 c0 : Nat) (z0 : List Int) (a1 : Int) (w : World) (k0 : l0 ≤ c0) (m0 : c0 ≤ maxLen) (r0 : Rd w w.heap.size 1 a0 l0 (ints z0)) (f0 : ∀ x ∈ z0, (Lit.int .i64 x).wf = true) (f1 : (Lit.int .i64 a1).wf = true) (bu : l0 ≤ 1048576) :
    Calls Try.prog 7 #[.slice a0 l0 c0, .int .i64 a1] w fun e w' => e = .returned (.bool true) ∧ Below w.heap.size w w' := by
  have hlen : l0 ≤ 4194304 := by omega
  have hb8 : l0 * 8 ≤ 140737488351232 := by omega
  obtain ⟨hlo, hhi⟩ := bounds_i64 f1
  have hz : z0.length = l0 := by have := r0.1; simpa using this
  have HZ := hide hz
  clear f1 bu
  by_cases hneg : a1 < 1
  · have hd : decide (a1 < 1) = true := by simpa using hneg
    have HP := hide (implChunk_panic a0 l0 c0 a1 (-1) hneg w)
    clear hz
    go_enter Try.func7, Try.ntmps7
    go_wp2_with fail
    refine HP.out.mono ?_
    rintro e w1 ⟨rfl, g1⟩
    go_wp2_with fail
    go_ret
    exact ⟨by simp, g1⟩
  · obtain ⟨c, rfl⟩ : ∃ c : Nat, a1 = (c : Int) := ⟨a1.toNat, by omega⟩
    have hd : decide ((c : Int) < 1) = false := by simpa using hneg
    have hd2 : ¬ ((c : Int) < 1) := hneg
    have q1 : 1 ≤ c := by omega
    have q2 : c ≤ 9223372036854775807 := by omega
    clear hneg
    have himp := implChunk a0 l0 c0 z0 c (-1) hlen k0 q1 q2 w r0
    rw [firstN_neg] at himp
    have hKl : nCh c l0 ≤ l0 := nCh_le q1
    have hfl : (chs c z0 (nCh c l0)).flatten = z0 := by rw [← hz]; exact chs_all q1
    have hKj : ∀ j, j < nCh c l0 → j * c < l0 := fun j h => nCh_lt q1 h
    obtain ⟨K, hK⟩ : ∃ K, nCh c l0 = K := ⟨_, rfl⟩
    rw [hK] at himp hKl hfl hKj
    have HIM := hide himp
    have HFL := hide hfl
    have HKJ := hide hKj
    clear himp hK hfl hKj hz
    go_enter Try.func7, Try.ntmps7
    go_wp2_with fail
    refine HIM.out.mono ?_
    rintro e w1 ⟨A1, d1, rs1, A2, d2, rfl, hr1, hq1, hr2, g1⟩
    have hs1 := g1.size
    go_wp2_with fail
    refine (implConcatN A1 K d1 rs1 _ z0 l0 HFL.out HZ.out (by omega) hb8 w1 hr1 hq1).mono ?_
    rintro e w2 ⟨A3, d3, f3, rfl, own3, g2⟩
    have x1 := hr1.below g2
    have y1 := hq1.below g2
    have x3 := Rd.of_own own3
    have g3 : Below w.heap.size w w2 := g1.trans (g2.mono hs1)
    clear hr1 hq1 hr2 HIM own3
    obtain ⟨w0, hw0⟩ : ∃ w0 : World, w0 = w2 := ⟨_, rfl⟩
    rw [← hw0] at x1 y1 g3 x3
    go_wp2
    rw [← hw0]
    clear hw0
    go_loop [29] (fun i => ∃ k : Nat, k ≤ K ∧ i = .int .i64 k) (fun i => K - (intOf i).toNat)
    case atStart => exact ⟨0, Nat.zero_le _, rfl⟩
    case round =>
      obtain ⟨k, hk, rfl⟩ := hrel
      by_cases hlt : k < K
      · obtain ⟨b, off, X, m, d, z, rfl, hb, hrk, hzk, hcx, hrx⟩ := y1.at_ x1 hlt
        have hm : m = chL c l0 k := by
          have h2 := (chs_get hzk.out).2
          have h3 := hrx.1
          rw [h2] at h3
          simp only [ints, List.length_map, chAt_length, HZ.out] at h3
          omega
        have hm1 : 1 ≤ m := by rw [hm]; exact chL_pos q1 (HKJ.out k hlt)
        have hm2 : m ≤ c := by rw [hm]; exact chL_le _ _ _
        have hmz : ((m : Int) == 0) = false := by simp; omega
        have hmz2 : ¬ m = 0 := by omega
        have hmc : ¬ (c : Int) < (m : Int) := by omega
        have hmc2 : ¬ c < m := by omega
        have hki : (k : Int) < (K : Int) := by omega
        have hK1 : 1 ≤ K := by omega
        by_cases hlast : k + 1 < K
        · obtain rfl : m = c := by
            rw [hm]
            exact chL_full (Nat.le_of_lt (HKJ.out (k + 1) hlast))
          have hmm : ((m : Int) != (m : Int)) = false := by simp
          have hkk : (k : Int) < (K : Int) - 1 := by omega
          have hkk2 : k < K - 1 := by omega
          clear hm hrk hzk
          go_wp2
          go_round
          case rel => exact ⟨k + 1, by omega, by go_num⟩
          case measure => simp [intOf]; omega
        · have hkk : ¬ (k : Int) < (K : Int) - 1 := by omega
          have hkk2 : ¬ k < K - 1 := by omega
          clear hm hrk hzk
          go_wp2
          go_round
          case rel => exact ⟨k + 1, by omega, by go_num⟩
          case measure => simp [intOf]; omega
      · obtain rfl : k = K := by omega
        go_wp2_with fail
        refine (equalIntT _ _ _ _ _ _ _ _ _ w0 x3 (r0.below g3) (by omega)).mono ?_
        rintro e w4 ⟨rfl, hd4⟩
        go_wp2_with fail
        go_ret
        exact ⟨by simp, g3.trans (hd4.below _)⟩

set_option maxRecDepth 100000 in
theorem lifted (os : Os) (started : os.Started) (H : Type) (enc : TypeId × Value → H) (F : Stop.Interp) :
    ReturnsInHanded {} Try.checked os 7 .any ((Rows.OpenSpec.upto Rows.fnChunkJoinedSpec).pre6 enc Try.prog Try.f7 Rows.fnChunkJoinedUptoRow.domain false) (((Rows.OpenSpec.upto Rows.fnChunkJoinedSpec).at F).post enc Try.prog Try.f7 false true false false) := by
  refine returnsInHanded_of_cond (C := Try.checked) (s := (Rows.OpenSpec.upto Rows.fnChunkJoinedSpec)) (k := Rows.uptoSmall) rfl own started (by kernel_rfl) Try.func7
    (OpenSpec.witness (enc := enc) (C := Try.checked) (s := (Rows.OpenSpec.upto Rows.fnChunkJoinedSpec)) (k := Rows.uptoSmall) rfl false ⟨#[], #[.slice none 0 0, .int .i64 0], []⟩ 8 (by kernel_rfl) (by kernel_rfl) (by kernel_rfl)
      (x := ([.nil, .lit (.int .i64 0)], [], [])) (by kernel_rfl) rfl (by kernel_rfl)) ?_
  intro W base args ds gs before hval0 hW _ hk0 _
  have hk := bulk_bound hk0
  have hval : ∀ (j : Nat) t v, Try.f7.params[j]? = some t → args[j]? = some v → Value.okWide Try.prog W .any base t v := hval0
  have hW' := hW
  obtain ⟨p, q, hA0, hV, rfl, hfz, hnd⟩ := hW
  have hA : DataW.TrodAll enc Try.prog W 0 (fun _ => true) true Try.f7.params.toList args.toList ds p := hA0
  rw [Try.params7] at hA hval
  obtain ⟨v0, vs0, d0, ds0, p0, q0, hargs, rfl, rfl, h0, rr0⟩ := trodAll_cons hA
  obtain ⟨v1, vs1, d1, ds1, p1, q1, rfl, rfl, rfl, h1, rr1⟩ := trodAll_cons rr0
  obtain ⟨rfl, rfl, rfl⟩ := trodAll_nil rr1
  obtain rfl : args = #[v0, v1] := by cases args; simp_all
  obtain ⟨rfl, rfl⟩ := trodVars_none hV
  have t0 := h0
  have lt0 : ∀ x ∈ p0, x.block < W.heap.size := by obtain ⟨m, hm⟩ := t0; exact DataW.trod_lt m _ _ _ hm
  obtain ⟨a0, l0, c0, z0, rfl, k0, m0, r0, f0, u0, s0⟩ := openInts (hval 0 22 v0 rfl rfl) h0
  have t1 := h1
  have lt1 : ∀ x ∈ p1, x.block < W.heap.size := by obtain ⟨m, hm⟩ := t1; exact DataW.trod_lt m _ _ _ hm
  obtain ⟨a1, rfl, hd1, hp1, f1⟩ := open_int Try.underlying3 (hval 1 3 v1 rfl rfl) h1
  have u1 := bulk_one d1
  simp only [List.cons_append, List.nil_append, List.append_nil, Rows.uptoBulkAll] at hk
  have bu : l0 ≤ 1048576 := by omega
  refine (walk a0 l0 c0 z0 a1 W k0 m0 r0 f0 f1 bu).mono fun e W' ⟨he, bel⟩ => ?_
  subst he
  exact ⟨_, rfl, _, _, _, [], _, [], hW', trodAll_mk1 (shut_bool Try.underlying4 _), (trodAll_cons_mk (Below.trod laidOut (by kernel_rfl) (of_decide_eq_true (by kernel_rfl)) t0 bel lt0) (trodAll_cons_mk (Below.trod laidOut (by kernel_rfl) (of_decide_eq_true (by kernel_rfl)) t1 bel lt1) trodAll_mk0)), rfl, bel.frame _, fun h => by cases h⟩

theorem over : Rows.fnChunkJoinedUptoRow.holds Try.pinned (Rows.OpenSpec.upto Rows.fnChunkJoinedSpec) :=
  OpenClaim.holds_of_cond 7 Try.f7 rfl rfl rfl rfl rfl rfl rfl ⟨rfl, rfl, rfl, rfl, rfl⟩ rfl rfl rfl rfl rfl (by kernel_rfl) Try.func7 (by kernel_rfl)
    (of_decide_eq_true (by kernel_rfl)) (by unfold Func.isWrapper; first | (rw [if_pos (by decide +kernel)]; kernel_rfl) | (rw [if_neg (by decide +kernel)]; exact ⟨rfl, rfl⟩))
    (fun os started H enc _ F => lifted os started H enc F)

/-- the given statement -/
theorem proved : Rows.FnChunkJoinedUptoSaid := over
#print axioms proved
end Go.Proofs.Ytiihcdoemgmjbaa.fnChunkJoined
