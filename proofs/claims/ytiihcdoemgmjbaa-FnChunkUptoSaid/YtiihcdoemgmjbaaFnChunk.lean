/-
  FnChunk: the law returns true at every input of at most 1048576 values, and changes nothing that was there.
-/
import Derived.ProofKit
import Derived.OpenShut
import Derived.JoinedCond
import Derived.Deep.CondSized
import Derived.SizedLaws
import Derived.WalkKit
import Derived.WalkLawsBesides
import Derived.Outline
import Derived.Deep.DeepMust
import Derived.Test.YtiihcdoemgmjbaaOpen
import Derived.Test.YtiihcdoemgmjbaaChkI
import Derived.Test.YtiihcdoemgmjbaaChkP
import Derived.Test.YtiihcdoemgmjbaaEqs
namespace Go.Proofs.Ytiihcdoemgmjbaa.fnChunk
open Go.ChangeShapes Go.WideShapes Go.ChangeAt Go.RowKit
set_option linter.unusedVariables false
set_option linter.unusedSimpArgs false

set_option maxRecDepth 100000 in
set_option maxHeartbeats 4000000 in
theorem walk (a0 : Option Addr) (l0 c0 : Nat) (z0 : List Int) (a1 : Int) (a2 : Int) (w : World) (k0 : l0 ≤ c0) (m0 : c0 ≤ maxLen) (r0 : Rd w w.heap.size 1 a0 l0 (ints z0)) (f0 : ∀ x ∈ z0, (Lit.int .i64 x).wf = true) (f1 : (Lit.int .i64 a1).wf = true) (f2 : (Lit.int .i64 a2).wf = true) (bu : l0 ≤ 1048576) :
    Calls Try.prog 3 #[.slice a0 l0 c0, .int .i64 a1, .int .i64 a2] w fun e w' => e = .returned (.bool true) ∧ Below w.heap.size w w' := by
  have hlen : l0 ≤ 4194304 := by omega
  obtain ⟨hlo, hhi⟩ := bounds_i64 f1
  have hz : z0.length = l0 := by have := r0.1; simpa using this
  have HZ := hide hz
  clear f1 f2 bu hz
  by_cases hneg : a1 < 1
  · have hd : decide (a1 < 1) = true := by simpa using hneg
    have HP := hide (implChunk_panic a0 l0 c0 a1 a2 hneg w)
    go_enter Try.func3, Try.ntmps3
    go_wp2_with fail
    refine HP.out.mono ?_
    rintro e w1 ⟨rfl, g1⟩
    go_wp2_with fail
    go_ret
    exact ⟨by simp, g1⟩
  · obtain ⟨c, rfl⟩ : ∃ c : Nat, a1 = (c : Int) := ⟨a1.toNat, by omega⟩
    have hd : decide ((c : Int) < 1) = false := by simpa using hneg
    have hd2 : ¬ ((c : Int) < 1) := hneg
    have q1 : 1 ≤ c := by omega
    have q2 : c ≤ 9223372036854775807 := by omega
    clear hneg
    have himp := implChunk a0 l0 c0 z0 c a2 hlen k0 q1 q2 w r0
    have hsp := fun (w1 : World) h => specChunk a0 l0 c0 z0 c a2 hlen k0 q1 q2 w1 h
    have hKl : firstN (nCh c l0) a2 ≤ l0 := Nat.le_trans (firstN_le _ _) (nCh_le q1)
    obtain ⟨K, hK⟩ : ∃ K, firstN (nCh c l0) a2 = K := ⟨_, rfl⟩
    rw [hK] at himp hsp hKl
    have HIM := hide himp
    have HSP := hide hsp
    have hml : ∀ z ∈ chs c z0 K, z.length ≤ 9223372036854775807 := fun z h => by have := chs_mem_le z h; have := HZ.out; omega
    have HML := hide hml
    have hKK : ((K : Int) != (K : Int)) = false := by simp
    clear himp hsp hK hml
    go_enter Try.func3, Try.ntmps3
    go_wp2_with fail
    refine HIM.out.mono ?_
    rintro e w1 ⟨A1, d1, rs1, A2, d2, rfl, hr1, hq1, hr2, g1⟩
    have hs1 := g1.size
    go_wp2_with fail
    refine (HSP.out w1 ((r0.below g1).more hs1)).mono ?_
    rintro e w2 ⟨A3, d3, rs3, rfl, hr3, hq3, g2⟩
    have x1 := hr1.below g2
    have x2 := hr2.below g2
    have y1 := hq1.below g2
    go_wp2_with fail
    refine (equalsT _ _ _ _ _ _ _ rs1 rs3 _ w2 x1 y1 hr3 hq3 (by omega) HML.out).mono ?_
    rintro e w3 ⟨rfl, hd3⟩
    replace x1 := x1.ofDrew hd3
    replace x2 := x2.ofDrew hd3
    replace y1 := y1.ofDrew hd3
    have g3 : Below w.heap.size w w3 := (g1.trans (g2.mono hs1)).trans (hd3.below _)
    clear hr1 hq1 hr2 hr3 hq3 HIM HSP
    obtain ⟨w0, hw0⟩ : ∃ w0 : World, w0 = w3 := ⟨_, rfl⟩
    rw [← hw0] at x1 x2 y1 g3
    go_wp2
    rw [← hw0]
    clear hw0
    go_loop [47] (fun i => ∃ k : Nat, k ≤ K ∧ i = .int .i64 k) (fun i => K - (intOf i).toNat)
    case atStart => exact ⟨0, Nat.zero_le _, rfl⟩
    case round =>
      obtain ⟨k, hk, rfl⟩ := hrel
      by_cases hlt : k < K
      · obtain ⟨b, off, X, m, d, z, rfl, hb, hrk, hzk, hcx, hrx⟩ := y1.at_ x1 hlt
        obtain ⟨b2, off2, v, rfl, hb2, hv, hc2⟩ := x2.intx hlt
        have hvm : v = (m : Int) := by
          have h1 := hv.out
          simp only [List.getElem?_map, List.getElem?_range hlt, Option.map_some] at h1
          have h2 := (chs_get hzk.out).2
          have h3 := hrx.1
          rw [h2] at h3
          simp only [ints, List.length_map, chAt_length, HZ.out] at h3
          have h4 := Option.some.inj h1
          omega
        subst hvm
        have hmm : ((m : Int) != (m : Int)) = false := by simp
        have hki : (k : Int) < (K : Int) := by omega
        clear hv
        go_wp2
        go_round
        case rel => exact ⟨k + 1, by omega, by go_num⟩
        case measure => simp [intOf]; omega
      · obtain rfl : k = K := by omega
        go_wp2
        go_ret
        exact ⟨rfl, g3⟩

set_option maxRecDepth 100000 in
theorem lifted (os : Os) (started : os.Started) (H : Type) (enc : TypeId × Value → H) (F : Stop.Interp) :
    ReturnsInHanded {} Try.checked os 3 .any ((Rows.OpenSpec.upto Rows.fnChunkSpec).pre6 enc Try.prog Try.f3 Rows.fnChunkUptoRow.domain false) (((Rows.OpenSpec.upto Rows.fnChunkSpec).at F).post enc Try.prog Try.f3 false true false false) := by
  refine returnsInHanded_of_cond (C := Try.checked) (s := (Rows.OpenSpec.upto Rows.fnChunkSpec)) (k := Rows.uptoSmall) rfl own started (by kernel_rfl) Try.func3
    (OpenSpec.witness (enc := enc) (C := Try.checked) (s := (Rows.OpenSpec.upto Rows.fnChunkSpec)) (k := Rows.uptoSmall) rfl false ⟨#[], #[.slice none 0 0, .int .i64 0, .int .i64 0], []⟩ 8 (by kernel_rfl) (by kernel_rfl) (by kernel_rfl)
      (x := ([.nil, .lit (.int .i64 0), .lit (.int .i64 0)], [], [])) (by kernel_rfl) rfl (by kernel_rfl)) ?_
  intro W base args ds gs before hval0 hW _ hk0 _
  have hk := bulk_bound hk0
  have hval : ∀ (j : Nat) t v, Try.f3.params[j]? = some t → args[j]? = some v → Value.okWide Try.prog W .any base t v := hval0
  have hW' := hW
  obtain ⟨p, q, hA0, hV, rfl, hfz, hnd⟩ := hW
  have hA : DataW.TrodAll enc Try.prog W 0 (fun _ => true) true Try.f3.params.toList args.toList ds p := hA0
  rw [Try.params3] at hA hval
  obtain ⟨v0, vs0, d0, ds0, p0, q0, hargs, rfl, rfl, h0, rr0⟩ := trodAll_cons hA
  obtain ⟨v1, vs1, d1, ds1, p1, q1, rfl, rfl, rfl, h1, rr1⟩ := trodAll_cons rr0
  obtain ⟨v2, vs2, d2, ds2, p2, q2, rfl, rfl, rfl, h2, rr2⟩ := trodAll_cons rr1
  obtain ⟨rfl, rfl, rfl⟩ := trodAll_nil rr2
  obtain rfl : args = #[v0, v1, v2] := by cases args; simp_all
  obtain ⟨rfl, rfl⟩ := trodVars_none hV
  have t0 := h0
  have lt0 : ∀ x ∈ p0, x.block < W.heap.size := by obtain ⟨m, hm⟩ := t0; exact DataW.trod_lt m _ _ _ hm
  obtain ⟨a0, l0, c0, z0, rfl, k0, m0, r0, f0, u0, s0⟩ := openInts (hval 0 22 v0 rfl rfl) h0
  have t1 := h1
  have lt1 : ∀ x ∈ p1, x.block < W.heap.size := by obtain ⟨m, hm⟩ := t1; exact DataW.trod_lt m _ _ _ hm
  obtain ⟨a1, rfl, hd1, hp1, f1⟩ := open_int Try.underlying3 (hval 1 3 v1 rfl rfl) h1
  have u1 := bulk_one d1
  have t2 := h2
  have lt2 : ∀ x ∈ p2, x.block < W.heap.size := by obtain ⟨m, hm⟩ := t2; exact DataW.trod_lt m _ _ _ hm
  obtain ⟨a2, rfl, hd2, hp2, f2⟩ := open_int Try.underlying3 (hval 2 3 v2 rfl rfl) h2
  have u2 := bulk_one d2
  simp only [List.cons_append, List.nil_append, List.append_nil, Rows.uptoBulkAll] at hk
  have bu : l0 ≤ 1048576 := by omega
  refine (walk a0 l0 c0 z0 a1 a2 W k0 m0 r0 f0 f1 f2 bu).mono fun e W' ⟨he, bel⟩ => ?_
  subst he
  exact ⟨_, rfl, _, _, _, [], _, [], hW', trodAll_mk1 (shut_bool Try.underlying4 _), (trodAll_cons_mk (Below.trod laidOut (by kernel_rfl) (of_decide_eq_true (by kernel_rfl)) t0 bel lt0) (trodAll_cons_mk (Below.trod laidOut (by kernel_rfl) (of_decide_eq_true (by kernel_rfl)) t1 bel lt1) (trodAll_cons_mk (Below.trod laidOut (by kernel_rfl) (of_decide_eq_true (by kernel_rfl)) t2 bel lt2) trodAll_mk0))), rfl, bel.frame _, fun h => by cases h⟩

theorem over : Rows.fnChunkUptoRow.holds Try.pinned (Rows.OpenSpec.upto Rows.fnChunkSpec) :=
  OpenClaim.holds_of_cond 3 Try.f3 rfl rfl rfl rfl rfl rfl rfl ⟨rfl, rfl, rfl, rfl, rfl⟩ rfl rfl rfl rfl rfl (by kernel_rfl) Try.func3 (by kernel_rfl)
    (of_decide_eq_true (by kernel_rfl)) (by unfold Func.isWrapper; first | (rw [if_pos (by decide +kernel)]; kernel_rfl) | (rw [if_neg (by decide +kernel)]; exact ⟨rfl, rfl⟩))
    (fun os started H enc _ F => lifted os started H enc F)

/-- the given statement -/
theorem proved : Rows.FnChunkUptoSaid := over
#print axioms proved
end Go.Proofs.Ytiihcdoemgmjbaa.fnChunk
