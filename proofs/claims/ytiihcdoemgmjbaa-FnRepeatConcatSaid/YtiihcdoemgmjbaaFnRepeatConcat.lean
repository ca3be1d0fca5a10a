/-
  FnRepeatConcat: the law returns true at every input, and changes nothing that was there.
-/
import Derived.ProofKit
import Derived.OpenShut
import Derived.JoinedCond
import Derived.Deep.CondSized
import Derived.SizedLaws
import Derived.WalkKit
import Derived.WalkLawsBesides
import Derived.Outline
import Derived.Deep.DeepMust
import Derived.Test.YtiihcdoemgmjbaaOpen
import Derived.Test.YtiihcdoemgmjbaaRepI
import Derived.Test.YtiihcdoemgmjbaaRepS
import Derived.Test.YtiihcdoemgmjbaaSpec
import Derived.Test.YtiihcdoemgmjbaaCon
import Derived.Test.YtiihcdoemgmjbaaRowsL
namespace Go.Proofs.Ytiihcdoemgmjbaa.fnRepeatConcat
open Go.ChangeShapes Go.WideShapes Go.ChangeAt Go.RowKit
set_option linter.unusedVariables false
set_option linter.unusedSimpArgs false

theorem repl_rd {w : World} {B k : Nat} {r : Option Addr × Nat × Nat} {z : List Int} (h : Rd w B 1 r.1 r.2.1 (ints z)) : RowsRd w B (List.replicate k r) (List.replicate k z) :=
  ⟨by simp, fun i r' z' h1 h2 => by
    rw [List.getElem?_replicate] at h1 h2
    split at h1
    · simp at h1; rw [if_pos (by assumption)] at h2; simp at h2; subst h1; subst h2; exact h
    · simp at h1⟩
set_option maxRecDepth 100000 in
set_option maxHeartbeats 4000000 in
theorem walk (a0 : Option Addr) (l0 c0 : Nat) (z0 : List Int) (a1 : Int) (w : World) (k0 : l0 ≤ c0) (m0 : c0 ≤ maxLen) (r0 : Rd w w.heap.size 1 a0 l0 (ints z0)) (f0 : ∀ x ∈ z0, (Lit.int .i64 x).wf = true) (f1 : (Lit.int .i64 a1).wf = true) (b0 : l0 * 8 ≤ 140737488351232) :
    Calls Try.prog 13 #[.slice a0 l0 c0, .int .i64 a1] w fun e w' => e = .returned (.bool true) ∧ Below w.heap.size w w' := by
  have hlen : l0 ≤ 17592186043904 := by omega
  obtain ⟨hlo, hhi⟩ := bounds_i64 f1
  clear f1
  by_cases hneg : a1 < 0
  · have hd : decide (a1 < 0) = true := by simpa using hneg
    go_enter Try.func13, Try.ntmps13
    go_wp2_with fail
    go_ret
    exact ⟨by simp, Below.refl _ _⟩
  · have hd : decide (a1 < 0) = false := by simpa using hneg
    by_cases hbg : 65536 < a1
    · have hd2 : decide (65536 < a1) = true := by simpa using hbg
      go_enter Try.func13, Try.ntmps13
      go_wp2_with fail
      go_ret
      exact ⟨by simp, Below.refl _ _⟩
    · obtain ⟨cnt, rfl⟩ : ∃ cnt : Nat, a1 = (cnt : Int) := ⟨a1.toNat, by omega⟩
      have hcnt : cnt ≤ 65536 := by omega
      have hd2 : decide ((65536 : Int) < (cnt : Int)) = false := by simpa using hbg
      have hd3 : ¬ ((65536 : Int) < (cnt : Int)) := by omega
      obtain ⟨N, hN⟩ : ∃ N, N = cnt * l0 := ⟨_, rfl⟩
      have hNi : (l0 : Int) * (cnt : Int) = (N : Int) := by rw [hN, Int.mul_comm]; simp
      have hNle : N ≤ 9223372036854775807 := by
        have h1 : cnt * l0 ≤ 65536 * 17592186043904 := Nat.mul_le_mul hcnt hlen
        omega
      have hso := fun w => specOverflows l0 cnt (by omega) w
      rw [show l0 * cnt = N by rw [hN, Nat.mul_comm]] at hso
      have hdt : decide (9223372036854775807 < N) = false := by simp; omega
      simp only [hdt] at hso
      have HSO := hide hso
      have hwN : IntKind.i64.wrap (N : Int) = (N : Int) := IntWalk.i64_in _ (by omega)
      have HN := hide hN
      clear hso hN hdt hneg hbg
      by_cases hbig : 65536 < N
      · have hbi : (65536 : Int) < (N : Int) := by omega
        go_enter Try.func13, Try.ntmps13
        go_wp2_with fail
        refine (HSO.out _).mono ?_
        rintro e w1 ⟨rfl, rfl⟩
        go_wp2_with fail
        go_ret
        exact ⟨by simp, Below.refl _ _⟩
      · have hbi : decide ((65536 : Int) < (N : Int)) = false := by simp; omega
        have hbi2 : ¬ ((65536 : Int) < (N : Int)) := by omega
        have hb8 : N * 8 ≤ 140737488351232 := by omega
        have hmk := run_makeRows cnt (by omega)
        have hee : ((N : Int) == (N : Int)) = true := by simp
        have hfl : (List.replicate cnt z0).flatten = rep cnt z0 := rfl
        have hfn : (rep cnt z0).length = N := by rw [rep_length, HN.out]; have := r0.1; simp at this; rw [this]
        have HF := hide hfl
        have HFN := hide hfn
        clear hfl hfn
        go_enter Try.func13, Try.ntmps13
        go_wp2_with fail
        refine (HSO.out _).mono ?_
        rintro e w1 ⟨rfl, rfl⟩
        go_wp2_with fail
        go_loopw [36] (fun i wr => ∃ k : Nat, k ≤ cnt ∧ i = .int .i64 k ∧ Hid (wr.heap[w.heap.size]? = some (.cells (rows (List.replicate k (a0, l0, c0)) ++ List.replicate (cnt - k) (Value.slice none 0 0)).toArray 22 (0, 0))) ∧ Below w.heap.size w wr ∧ w.heap.size + 1 ≤ wr.heap.size) (fun i _ => cnt - (intOf i).toNat)
        case atStart =>
          refine ⟨0, Nat.zero_le _, rfl, ?_, (Below.refl _ w).alloc (Nat.le_refl _) _, by simp⟩
          show _ = _
          rw [heap_alloc_new]
          simp [rows]
        case round =>
          obtain ⟨k, hk, rfl, hblk, hB, hsz⟩ := hrel
          by_cases hlt : k < cnt
          · obtain ⟨u2, hu2⟩ := cell_ex hblk.out (k := k) (by simp [rows]; omega)
            have hfr2 : wr.frozen? ⟨w.heap.size, k, none⟩ = false := frozen_zero hblk.out k
            go_wp2_with fail
            go_roundw
            case rel =>
              refine ⟨k + 1, by omega, by go_num, ?_, hB.setCell (p := ⟨w.heap.size, k, none⟩) (Nat.le_refl _) _, by simpa [World.setCell] using hsz⟩
              show _ = _
              rw [heap_setCell_at hblk.out]
              have h := set_rows (List.replicate k (a0, l0, c0)) cnt (by simp; omega) a0 l0 c0
              rw [List.length_replicate, ← List.replicate_succ'] at h
              rw [h]
            case measure => simp [intOf]; omega
          · obtain rfl : k = cnt := by omega
            have hblk2 := hblk.out
            simp only [Nat.sub_self, List.replicate_zero, List.append_nil] at hblk2
            have hsl : Rd wr wr.heap.size 1 (some ⟨w.heap.size, 0, none⟩) k (rows (List.replicate k (a0, l0, c0))) := rd_of_block hblk2 (by rw [rows_length, List.length_replicate])
            have hr0 : Rd wr wr.heap.size 1 a0 l0 (ints z0) := (r0.below hB).more (by omega)
            have hB0 := hB.size
            clear hblk2 hblk
            go_wp2_with fail
            refine (implRepeat a0 l0 c0 z0 k N HN.out hb8 b0 (by omega) wr hr0).mono ?_
            rintro e w1 ⟨A1, rfl, own1, g1⟩
            have hs1 := g1.size
            go_wp2_with fail
            refine (implConcatN _ _ _ _ (List.replicate k z0) (rep k z0) N HF.out HFN.out (by omega) hb8 w1 ((hsl.below g1).more hs1) (repl_rd ((hr0.below g1).more hs1))).mono ?_
            rintro e w2 ⟨A2, d2, f2, rfl, own2, g2⟩
            have hs2 := g2.size
            go_wp2_with fail
            refine (equalIntT _ _ _ _ _ _ _ _ _ w2 ((Rd.of_own own1).below g2) (Rd.of_own own2) hNle).mono ?_
            rintro e w3 ⟨rfl, hd⟩
            go_wp2_with fail
            go_ret
            exact ⟨by simp, ((hB.trans (g1.mono hB0)).trans (g2.mono (by omega))).trans (hd.below _)⟩

set_option maxRecDepth 100000 in
theorem lifted (os : Os) (started : os.Started) (H : Type) (enc : TypeId × Value → H) :
    ReturnsInHanded {} Try.checked os 13 .any (Rows.fnRepeatConcatSpec.pre6 enc Try.prog Try.f13 Rows.fnRepeatConcatRow.domain false) (Rows.fnRepeatConcatSpec.post enc Try.prog Try.f13 false true false false) := by
  refine returnsInHanded_of_change_sized (C := Try.checked) own started (by kernel_rfl) Try.func13
    (ChangeSpec.witness6 (enc := enc) (C := Try.checked) false ⟨#[], #[.slice none 0 0, .int .i64 0], []⟩ 8 (by kernel_rfl) (by kernel_rfl) (by kernel_rfl) (by kernel_rfl)) ?_
  intro W base args ds gs before hval0 hW _ hsz0 _
  have hsz : (DataW.weightsEach Try.prog (Try.f13.params.toList ++ Rows.fnRepeatConcatSpec.plain.varTypes Try.prog) (ds ++ gs)).all (· ≤ reachBytes) = true := hsz0
  have hval : ∀ (j : Nat) t v, Try.f13.params[j]? = some t → args[j]? = some v → Value.okWide Try.prog W .any base t v := hval0
  have hW' := hW
  obtain ⟨p, q, hA0, hV, rfl, hfz, hnd⟩ := hW
  have hA : DataW.TrodAll enc Try.prog W 0 (fun _ => true) true Try.f13.params.toList args.toList ds p := hA0
  rw [Try.params13] at hA hval hsz
  obtain ⟨v0, vs0, d0, ds0, p0, q0, hargs, rfl, rfl, h0, rr0⟩ := trodAll_cons hA
  obtain ⟨v1, vs1, d1, ds1, p1, q1, rfl, rfl, rfl, h1, rr1⟩ := trodAll_cons rr0
  obtain ⟨rfl, rfl, rfl⟩ := trodAll_nil rr1
  obtain rfl : args = #[v0, v1] := by cases args; simp_all
  obtain ⟨rfl, rfl⟩ := trodVars_none hV
  have t0 := h0
  have lt0 : ∀ x ∈ p0, x.block < W.heap.size := by obtain ⟨m, hm⟩ := t0; exact DataW.trod_lt m _ _ _ hm
  obtain ⟨a0, l0, c0, z0, rfl, k0, m0, r0, f0, u0, s0⟩ := openInts (hval 0 22 v0 rfl rfl) h0
  have b0 := s0 (sized_at hsz 0 rfl rfl)
  have t1 := h1
  have lt1 : ∀ x ∈ p1, x.block < W.heap.size := by obtain ⟨m, hm⟩ := t1; exact DataW.trod_lt m _ _ _ hm
  obtain ⟨a1, rfl, hd1, hp1, f1⟩ := open_int Try.underlying3 (hval 1 3 v1 rfl rfl) h1
  have u1 := bulk_one d1
  refine (walk a0 l0 c0 z0 a1 W k0 m0 r0 f0 f1 b0).mono fun e W' ⟨he, bel⟩ => ?_
  subst he
  exact ⟨_, rfl, _, _, _, [], _, [], hW', trodAll_mk1 (shut_bool Try.underlying4 _), (trodAll_cons_mk (Below.trod laidOut (by kernel_rfl) (of_decide_eq_true (by kernel_rfl)) t0 bel lt0) (trodAll_cons_mk (Below.trod laidOut (by kernel_rfl) (of_decide_eq_true (by kernel_rfl)) t1 bel lt1) trodAll_mk0)), rfl, bel.frame _, fun h => by cases h⟩

theorem over : Rows.fnRepeatConcatRow.holds Try.pinned (OpenSpec.ofChange Rows.fnRepeatConcatSpec) :=
  OpenClaim.holds_of_wide 13 Try.f13 rfl rfl rfl rfl rfl rfl rfl ⟨rfl, rfl, rfl, rfl, rfl⟩ rfl rfl rfl rfl rfl (by kernel_rfl) Try.func13 (by kernel_rfl)
    (of_decide_eq_true (by kernel_rfl)) (by unfold Func.isWrapper; first | (rw [if_pos (by decide +kernel)]; kernel_rfl) | (rw [if_neg (by decide +kernel)]; exact ⟨rfl, rfl⟩))
    (fun os started H enc _ => lifted os started H enc)

/-- the given statement -/
theorem proved : Rows.FnRepeatConcatSaid := over
#print axioms proved
end Go.Proofs.Ytiihcdoemgmjbaa.fnRepeatConcat
