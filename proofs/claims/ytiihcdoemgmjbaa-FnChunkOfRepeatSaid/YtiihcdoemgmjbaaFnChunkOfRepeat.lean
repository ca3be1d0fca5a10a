/-
  FnChunkOfRepeat: the law returns true at every input, and changes nothing that was there.
-/
import Derived.ProofKit
import Derived.OpenShut
import Derived.JoinedCond
import Derived.Deep.CondSized
import Derived.SizedLaws
import Derived.WalkKit
import Derived.WalkLawsBesides
import Derived.Outline
import Derived.Deep.DeepMust
import Derived.Test.YtiihcdoemgmjbaaOpen
import Derived.Test.YtiihcdoemgmjbaaRepI
import Derived.Test.YtiihcdoemgmjbaaRepS
import Derived.Test.YtiihcdoemgmjbaaChkI
import Derived.Test.YtiihcdoemgmjbaaChkP
namespace Go.Proofs.Ytiihcdoemgmjbaa.fnChunkOfRepeat
open Go.ChangeShapes Go.WideShapes Go.ChangeAt Go.RowKit
set_option linter.unusedVariables false
set_option linter.unusedSimpArgs false

theorem chAt_rep {n j : Nat} {l : List Int} (hj : j < n) : chAt l.length (rep n l) j = l := by
  rw [chAt_take]
  obtain ⟨d, rfl⟩ : ∃ d, n = j + (1 + d) := ⟨n - j - 1, by omega⟩
  rw [rep_add, rep_add, show rep 1 l = l by simp [rep]]
  rw [List.drop_append_of_le_length (by rw [rep_length]; exact Nat.le_refl _), List.drop_of_length_le (by rw [rep_length]; exact Nat.le_refl _), List.nil_append]
  rw [List.take_append_of_le_length (Nat.le_refl _), List.take_length]
theorem nCh_rep {n len : Nat} (h : 1 ≤ len) : nCh len (n * len) = n := nCh_eq h (Nat.le_refl _) (by
  rcases Nat.eq_zero_or_pos n with h0 | h0
  · exact .inl h0
  · right
    obtain ⟨k, rfl⟩ : ∃ k, n = k + 1 := ⟨n - 1, by omega⟩
    rw [Nat.add_sub_cancel, Nat.succ_mul]; omega)
set_option maxRecDepth 100000 in
set_option maxHeartbeats 4000000 in
theorem walk (a0 : Option Addr) (l0 c0 : Nat) (z0 : List Int) (a1 : Int) (w : World) (k0 : l0 ≤ c0) (m0 : c0 ≤ maxLen) (r0 : Rd w w.heap.size 1 a0 l0 (ints z0)) (f0 : ∀ x ∈ z0, (Lit.int .i64 x).wf = true) (f1 : (Lit.int .i64 a1).wf = true) (b0 : l0 * 8 ≤ 140737488351232) :
    Calls Try.prog 9 #[.slice a0 l0 c0, .int .i64 a1] w fun e w' => e = .returned (.bool true) ∧ Below w.heap.size w w' := by
  have hlen : l0 ≤ 17592186043904 := by omega
  obtain ⟨hlo, hhi⟩ := bounds_i64 f1
  have hz : z0.length = l0 := by have := r0.1; simpa using this
  have HZ := hide hz
  clear f1 hz
  by_cases hl0 : l0 = 0
  · subst hl0
    go_enter Try.func9, Try.ntmps9
    go_wp2_with fail
    go_ret
    exact ⟨by simp, Below.refl _ _⟩
  have hlz : ((l0 : Int) == 0) = false := by simp; omega
  have hl1 : 1 ≤ l0 := by omega
  by_cases hneg : a1 < 0
  · have hd : decide (a1 < 0) = true := by simpa using hneg
    go_enter Try.func9, Try.ntmps9
    go_wp2_with fail
    go_ret
    exact ⟨by simp, Below.refl _ _⟩
  obtain ⟨cnt, rfl⟩ : ∃ cnt : Nat, a1 = (cnt : Int) := ⟨a1.toNat, by omega⟩
  have hcnt : cnt ≤ 9223372036854775807 := by omega
  have hnn : decide ((cnt : Int) < 0) = false := by simp
  obtain ⟨N, hN⟩ : ∃ N, N = cnt * l0 := ⟨_, rfl⟩
  have hNi : (l0 : Int) * (cnt : Int) = (N : Int) := by rw [hN, Int.mul_comm]; simp
  have hso := fun w => specOverflows l0 cnt (by omega) w
  rw [show l0 * cnt = N by rw [hN, Nat.mul_comm]] at hso
  by_cases hov : 9223372036854775807 < N
  · have hdt : decide (9223372036854775807 < N) = true := by simpa using hov
    simp only [hdt] at hso
    have HSO := hide hso
    clear hso hN hNi hov hdt hneg
    go_enter Try.func9, Try.ntmps9
    go_wp2_with fail
    refine (HSO.out _).mono ?_
    rintro e w1 ⟨rfl, rfl⟩
    go_wp2_with fail
    go_ret
    exact ⟨by simp, Below.refl _ _⟩
  have hdt : decide (9223372036854775807 < N) = false := by simpa using hov
  simp only [hdt] at hso
  have HSO := hide hso
  have hwN : IntKind.i64.wrap (N : Int) = (N : Int) := IntWalk.i64_in _ (by omega)
  have HN := hide hN
  have hcN : cnt ≤ N := by rw [hN]; exact Nat.le_mul_of_pos_right _ hl1
  clear hso hN hov hdt hneg
  by_cases hbig : 65536 < N
  · have hbi : (65536 : Int) < (N : Int) := by omega
    go_enter Try.func9, Try.ntmps9
    go_wp2_with fail
    refine (HSO.out _).mono ?_
    rintro e w1 ⟨rfl, rfl⟩
    go_wp2_with fail
    go_ret
    exact ⟨by simp, Below.refl _ _⟩
  have hbi : decide ((65536 : Int) < (N : Int)) = false := by simp; omega
  have hbi2 : ¬ ((65536 : Int) < (N : Int)) := by omega
  have hb8 : N * 8 ≤ 140737488351232 := by omega
  have hee : ((cnt : Int) == (cnt : Int)) = true := by simp
  have hnc : nCh l0 N = cnt := by rw [HN.out]; exact nCh_rep hl1
  have HNC := hide hnc
  clear hnc
  go_enter Try.func9, Try.ntmps9
  go_wp2_with fail
  refine (HSO.out _).mono ?_
  rintro e w1 ⟨rfl, rfl⟩
  go_wp2_with fail
  refine (implRepeat a0 l0 c0 z0 cnt N HN.out hb8 b0 hcnt w r0).mono ?_
  rintro e w1 ⟨A1, rfl, own1, g1⟩
  have hs1 := g1.size
  have himp := implChunk A1 N N (rep cnt z0) l0 (-1) (by omega) (Nat.le_refl _) hl1 (by omega) w1 (Rd.of_own own1)
  rw [firstN_neg, HNC.out] at himp
  have HIM := hide himp
  clear himp own1
  go_wp2_with fail
  refine HIM.out.mono ?_
  rintro e w2 ⟨A2, d2, rs2, A3, d3, rfl, hr2, hq2, hr3, g2⟩
  have g02 : Below w.heap.size w w2 := g1.trans (g2.mono hs1)
  have hcon : chs l0 (rep cnt z0) cnt = List.replicate cnt z0 := by
    apply List.ext_getElem?
    intro i
    by_cases hi : i < cnt
    · rw [List.getElem?_replicate, if_pos hi]
      simp only [chs, List.getElem?_map, List.getElem?_range hi, Option.map_some]
      have := chAt_rep (l := z0) hi
      rw [HZ.out] at this
      rw [this]
    · rw [List.getElem?_eq_none (by rw [chs_length]; omega), List.getElem?_eq_none (by simp; omega)]
  rw [hcon] at hq2
  clear hcon hr3 HIM
  obtain ⟨w0, hw0⟩ : ∃ w0 : World, w0 = w2 := ⟨_, rfl⟩
  rw [← hw0] at hr2 hq2 g02
  go_wp2
  rw [← hw0]
  clear hw0
  go_loopw [52] (fun i wr => ∃ k : Nat, k ≤ cnt ∧ i = .int .i64 k ∧ Drew w0 wr) (fun i _ => cnt - (intOf i).toNat)
  case atStart => exact ⟨0, Nat.zero_le _, rfl, Drew.refl _⟩
  case round =>
    obtain ⟨k, hk, rfl, hdr⟩ := hrel
    by_cases hlt : k < cnt
    · obtain ⟨b, off, X, m, d, z, rfl, hb, hrk, hzk, hcx, hrx⟩ := (hq2.ofDrew hdr).at_ (hr2.ofDrew hdr) hlt
      obtain rfl : z = z0 := by
        have h1 := hzk.out
        rw [List.getElem?_replicate, if_pos hlt] at h1
        exact (Option.some.inj h1).symm
      have hki : (k : Int) < (cnt : Int) := by omega
      have hm : m ≤ 9223372036854775807 := by have h1 := hrx.1; have h2 := HZ.out; simp [ints] at h1; omega
      clear hrk hzk
      go_wp2_with fail
      refine (equalIntT _ _ _ _ _ _ _ _ _ wr hrx ((r0.below g02).ofDrew hdr) hm).mono ?_
      rintro e w3 ⟨rfl, hd3⟩
      go_wp2
      go_roundw
      case rel => exact ⟨k + 1, by omega, by go_num, hdr.trans hd3⟩
      case measure => simp [intOf]; omega
    · obtain rfl : k = cnt := by omega
      go_wp2
      go_ret
      exact ⟨rfl, g02.trans (hdr.below _)⟩

set_option maxRecDepth 100000 in
theorem lifted (os : Os) (started : os.Started) (H : Type) (enc : TypeId × Value → H) :
    ReturnsInHanded {} Try.checked os 9 .any (Rows.fnChunkOfRepeatSpec.pre6 enc Try.prog Try.f9 Rows.fnChunkOfRepeatRow.domain false) (Rows.fnChunkOfRepeatSpec.post enc Try.prog Try.f9 false true false false) := by
  refine returnsInHanded_of_change_sized (C := Try.checked) own started (by kernel_rfl) Try.func9
    (ChangeSpec.witness6 (enc := enc) (C := Try.checked) false ⟨#[], #[.slice none 0 0, .int .i64 0], []⟩ 8 (by kernel_rfl) (by kernel_rfl) (by kernel_rfl) (by kernel_rfl)) ?_
  intro W base args ds gs before hval0 hW _ hsz0 _
  have hsz : (DataW.weightsEach Try.prog (Try.f9.params.toList ++ Rows.fnChunkOfRepeatSpec.plain.varTypes Try.prog) (ds ++ gs)).all (· ≤ reachBytes) = true := hsz0
  have hval : ∀ (j : Nat) t v, Try.f9.params[j]? = some t → args[j]? = some v → Value.okWide Try.prog W .any base t v := hval0
  have hW' := hW
  obtain ⟨p, q, hA0, hV, rfl, hfz, hnd⟩ := hW
  have hA : DataW.TrodAll enc Try.prog W 0 (fun _ => true) true Try.f9.params.toList args.toList ds p := hA0
  rw [Try.params9] at hA hval hsz
  obtain ⟨v0, vs0, d0, ds0, p0, q0, hargs, rfl, rfl, h0, rr0⟩ := trodAll_cons hA
  obtain ⟨v1, vs1, d1, ds1, p1, q1, rfl, rfl, rfl, h1, rr1⟩ := trodAll_cons rr0
  obtain ⟨rfl, rfl, rfl⟩ := trodAll_nil rr1
  obtain rfl : args = #[v0, v1] := by cases args; simp_all
  obtain ⟨rfl, rfl⟩ := trodVars_none hV
  have t0 := h0
  have lt0 : ∀ x ∈ p0, x.block < W.heap.size := by obtain ⟨m, hm⟩ := t0; exact DataW.trod_lt m _ _ _ hm
  obtain ⟨a0, l0, c0, z0, rfl, k0, m0, r0, f0, u0, s0⟩ := openInts (hval 0 22 v0 rfl rfl) h0
  have b0 := s0 (sized_at hsz 0 rfl rfl)
  have t1 := h1
  have lt1 : ∀ x ∈ p1, x.block < W.heap.size := by obtain ⟨m, hm⟩ := t1; exact DataW.trod_lt m _ _ _ hm
  obtain ⟨a1, rfl, hd1, hp1, f1⟩ := open_int Try.underlying3 (hval 1 3 v1 rfl rfl) h1
  have u1 := bulk_one d1
  refine (walk a0 l0 c0 z0 a1 W k0 m0 r0 f0 f1 b0).mono fun e W' ⟨he, bel⟩ => ?_
  subst he
  exact ⟨_, rfl, _, _, _, [], _, [], hW', trodAll_mk1 (shut_bool Try.underlying4 _), (trodAll_cons_mk (Below.trod laidOut (by kernel_rfl) (of_decide_eq_true (by kernel_rfl)) t0 bel lt0) (trodAll_cons_mk (Below.trod laidOut (by kernel_rfl) (of_decide_eq_true (by kernel_rfl)) t1 bel lt1) trodAll_mk0)), rfl, bel.frame _, fun h => by cases h⟩

theorem over : Rows.fnChunkOfRepeatRow.holds Try.pinned (OpenSpec.ofChange Rows.fnChunkOfRepeatSpec) :=
  OpenClaim.holds_of_wide 9 Try.f9 rfl rfl rfl rfl rfl rfl rfl ⟨rfl, rfl, rfl, rfl, rfl⟩ rfl rfl rfl rfl rfl (by kernel_rfl) Try.func9 (by kernel_rfl)
    (of_decide_eq_true (by kernel_rfl)) (by unfold Func.isWrapper; first | (rw [if_pos (by decide +kernel)]; kernel_rfl) | (rw [if_neg (by decide +kernel)]; exact ⟨rfl, rfl⟩))
    (fun os started H enc _ => lifted os started H enc)

/-- the given statement -/
theorem proved : Rows.FnChunkOfRepeatSaid := over
#print axioms proved
end Go.Proofs.Ytiihcdoemgmjbaa.fnChunkOfRepeat
