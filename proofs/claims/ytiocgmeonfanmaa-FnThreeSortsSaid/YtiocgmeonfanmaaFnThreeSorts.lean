/-
  FnThreeSorts: the law returns true at every input, and changes nothing that was there.
-/
import Derived.ProofKit
import Derived.OpenShut
import Derived.JoinedCond
import Derived.Deep.CondSized
import Derived.SizedLaws
import Derived.WalkKit
import Derived.WalkLawsBesides
import Derived.Outline
import Derived.Deep.DeepMust
import Derived.Deep.RegionWith
import Derived.Test.YtiocgmeonfanmaaOpen
import Derived.Test.YtiocgmeonfanmaaSoF
import Derived.Test.YtiocgmeonfanmaaSortI
import Derived.Test.YtiocgmeonfanmaaRankW
import Derived.Test.YtiocgmeonfanmaaThrP
namespace Go.Proofs.Ytiocgmeonfanmaa.fnThreeSorts
open Go.ChangeShapes Go.WideShapes Go.ChangeAt Go.RowKit
set_option linter.unusedVariables false
set_option linter.unusedSimpArgs false

set_option maxRecDepth 100000 in
set_option maxHeartbeats 4000000 in
theorem walk (a0 : Option Addr) (l0 c0 : Nat) (z0 : List Int) (w : World) (k0 : l0 ≤ c0) (m0 : c0 ≤ maxLen) (r0 : Rd w w.heap.size 1 a0 l0 (ints z0)) (f0 : ∀ x ∈ z0, (Lit.int .i64 x).wf = true) (b0 : l0 * 8 ≤ 140737488351232) :
    Calls Try.prog 10 #[.slice a0 l0 c0] w fun e w' => e = .returned (.bool true) ∧ Below w.heap.size w w' := by
  have mixed := mixedI
  have hz0 : z0.length = l0 := by have := r0.1; simpa using this
  subst hz0
  go_enter Try.func10, Try.ntmps10
  by_cases hb : 4096 < z0.length
  · have hbz : 4096 < (z0.length : Int) := by omega
    go_wp2_with fail
    go_ret
    exact ⟨rfl, Below.refl _ _⟩
  · have hbz : ¬ 4096 < (z0.length : Int) := by omega
    have hn : z0.length ≤ 4096 := by omega
    have hnn : z0.length * z0.length ≤ 16777216 := Nat.mul_le_mul hn hn
    have HK := hide (weak_ranked hn)
    go_wp2_with fail
    refine (implSorted a0 z0.length c0 z0 (by omega) w r0).mono ?_
    rintro _ w1 ⟨A1, d1, rfl, own1, g1⟩
    have q1 := Rd.of_own own1
    clear own1
    go_wp2_with fail
    refine (lawsItems a0 z0.length c0 w.heap.size z0 w1 (r0.below g1) g1.size (by omega)).mono ?_
    rintro _ w2 ⟨A2, d2, rfl, own2, g2⟩
    have q2 := Rd.of_own own2
    clear own2
    have G2 := g1.trans (g2.mono g1.size)
    go_wp2_with fail
    refine (lawsRanked a0 z0.length c0 w.heap.size z0 w2 (r0.below G2) G2.size hn).mono ?_
    rintro _ w3 ⟨A3, m3, d3, rfl, own3, hm3, g3⟩
    subst hm3
    have q3 := Rd.of_own own3
    clear own3
    have G3 := G2.trans (g3.mono G2.size)
    go_wp2_with fail
    refine (implSortedFunc A2 z0.length d2 (idxItems z0) z0.length A3 (z0.length * z0.length) d3 (rkPre z0 z0.length) (by omega) (by omega) w3 ((q2.below g3).more g3.size) q3).mono ?_
    rintro _ w4 ⟨A4, d4, ts, rfl, hp, hst, own4, g4⟩
    have q4 := Rd.of_own own4
    have HTG := hide (fun (i : Nat) (p : Int × Int) (x : Int) (h1 : ts[i]? = some p) (h2 : (srt z0)[i]? = some x) => rank_tag hn hp (hst HK.out) h1 h2)
    clear own4 hp hst q2 q3
    have G4 := G3.trans (g4.mono G3.size)
    have K14 : Below w1.heap.size w1 w4 := (g2.trans (g3.mono g2.size)).trans (g4.mono (Nat.le_trans g2.size g3.size))
    clear g2 g3 g4
    go_wp2_with fail
    refine (lawsItems a0 z0.length c0 w.heap.size z0 w4 (r0.below G4) G4.size (by omega)).mono ?_
    rintro _ w5 ⟨A5, d5, rfl, own5, g5⟩
    have q5 := Rd.of_own own5
    clear own5
    have G5 := G4.trans (g5.mono G4.size)
    go_wp2_with fail
    refine (lawsRanked a0 z0.length c0 w.heap.size z0 w5 (r0.below G5) G5.size hn).mono ?_
    rintro _ w6 ⟨A6, m6, d6, rfl, own6, hm6, g6⟩
    subst hm6
    have q6 := Rd.of_own own6
    clear own6
    have G6 := G5.trans (g6.mono G5.size)
    go_wp2_with fail
    refine (implSortedStable A5 z0.length d5 (idxItems z0) z0.length A6 (z0.length * z0.length) d6 (rkPre z0 z0.length) (by omega) (by omega) w6 ((q5.below g6).more g6.size) q6).mono ?_
    rintro _ w7 ⟨A7, d7, cs, rfl, hp7, hst7, own7, g7⟩
    have q7 := Rd.of_own own7
    have HTC := hide (fun (i : Nat) (p : Int × Int) (x : Int) (h1 : cs[i]? = some p) (h2 : (srt z0)[i]? = some x) => rank_tag hn hp7 (hst7 HK.out).sro h1 h2)
    have HKC := hide (fun (i : Nat) (p q : Int × Int) (h1 : cs[i]? = some p) (h2 : cs[i + 1]? = some q) (ht : p.2 = q.2) => rank_key hn (hst7 HK.out) h1 h2 ht)
    clear own7 hp7 hst7 q5 q6
    have G7 := G6.trans (g7.mono G6.size)
    have K47 : Below w4.heap.size w4 w7 := (g5.trans (g6.mono g5.size)).trans (g7.mono (Nat.le_trans g5.size g6.size))
    clear g5 g6 g7
    have q1 := (q1.below (K14.trans (K47.mono K14.size))).more (Nat.le_trans K14.size K47.size)
    have q4 := (q4.below K47).more K47.size
    clear K14 K47 G2 G3 G4 G5 G6
    have HSL := hide (srt_length z0)
    go_wp2_with fail
    go_loopw [56] (fun vi wr => ∃ i : Nat, vi = .int .i64 i ∧ i ≤ z0.length ∧ Below w7.heap.size w7 wr) (fun vi _ => z0.length - (intOf vi).toNat)
    case atStart => exact ⟨0, rfl, Nat.zero_le _, Below.refl _ _⟩
    case round =>
      obtain ⟨i, rfl, hi, hB⟩ := hrel
      by_cases hlt : i < z0.length
      · have hltz : (i : Int) < (z0.length : Int) := by omega
        have q1 := q1.below hB
        have q4 := q4.below hB
        have q7 := q7.below hB
        obtain ⟨ba, offa, x, hAa, hba, hx, hca⟩ := q1.intx hlt
        obtain ⟨bb, offb, y1, y2, hAb, hbb, hxb, hcb1, hcb2⟩ := q4.pair hlt
        obtain ⟨bc, offc, u1, u2, hAc, hbc, hxc, hcc1, hcc2⟩ := q7.pair hlt
        subst hAa hAb hAc
        obtain rfl : y2 = x := HTG.out i (y1, y2) x hxb.out hx.out
        obtain rfl : u2 = y2 := HTC.out i (u1, u2) _ hxc.out hx.out
        clear hx hxb q1 q4
        by_cases hi0 : 0 < i
        · obtain ⟨k, hk⟩ : ∃ k, i = k + 1 := ⟨i - 1, by omega⟩
          have hgt : (0 : Int) < (i : Int) := by omega
          obtain ⟨be, offe, v1, v2, hAe, hbe, hxe, hce1, hce2⟩ := q7.pair (k := k) (by omega)
          injection hAe with hAe
          injection hAe with e1 e2
          subst e1 e2
          have ek : ((i : Int) - 1).toNat = k := by omega
          have pk : (0 : Int) ≤ (i : Int) - 1 := by omega
          have bk : (i : Int) - 1 < (z0.length : Int) := by omega
          have rk : IntKind.i64.wrap ((i : Int) - 1) = (i : Int) - 1 := by rw [IntKind.wrap_i64]; omega
          have HKK := hide hk
          clear hk q7
          by_cases hv : v2 = u2
          · subst hv
            have hle : ¬ u1 < v1 := by have := HKC.out k (v1, v2) (u1, v2) hxe.out (by rw [← HKK.out]; exact hxc.out) rfl; simp only at this; omega
            clear hxe hxc
            go_wp2_with fail
            go_big_region_o
            go_wp2_with fail
            go_roundw
            case rel => exact ⟨i + 1, by go_num, by omega, hB.drew⟩
            case measure => first | (simp [intOf]; omega) | simp [intOf]
          · have hvb : (v2 == u2) = false := by simp [hv]
            clear hxe hxc
            go_wp2_with fail
            go_big_region_o
            go_wp2_with fail
            go_roundw
            case rel => exact ⟨i + 1, by go_num, by omega, hB.drew⟩
            case measure => first | (simp [intOf]; omega) | simp [intOf]
        · have hgt : ¬ (0 : Int) < (i : Int) := by omega
          have hgd : decide ((0 : Int) < (i : Int)) = false := decide_eq_false hgt
          have hgn : decide (0 < i) = false := decide_eq_false hi0
          clear hxc q7
          go_wp2_with fail
          go_big_region_o
          go_wp2_with fail
          go_roundw
          case rel => exact ⟨i + 1, by go_num, by omega, hB.drew⟩
          case measure => first | (simp [intOf]; omega) | simp [intOf]
      · obtain rfl : i = z0.length := by omega
        have hltz : ¬ (z0.length : Int) < (z0.length : Int) := by omega
        go_wp2_with fail
        go_ret
        exact ⟨rfl, G7.trans (hB.mono G7.size)⟩

set_option maxRecDepth 100000 in
theorem lifted (os : Os) (started : os.Started) (H : Type) (enc : TypeId × Value → H) :
    ReturnsInHanded {} Try.checked os 10 .any (Rows.fnThreeSortsSpec.pre6 enc Try.prog Try.f10 Rows.fnThreeSortsRow.domain false) (Rows.fnThreeSortsSpec.post enc Try.prog Try.f10 false true false false) := by
  refine returnsInHanded_of_change_sized (C := Try.checked) own started (by kernel_rfl) Try.func10
    (ChangeSpec.witness6 (enc := enc) (C := Try.checked) false ⟨#[], #[.slice none 0 0], []⟩ 8 (by kernel_rfl) (by kernel_rfl) (by kernel_rfl) (by kernel_rfl)) ?_
  intro W base args ds gs before hval0 hW _ hsz0 _
  have hsz : (DataW.weightsEach Try.prog (Try.f10.params.toList ++ Rows.fnThreeSortsSpec.plain.varTypes Try.prog) (ds ++ gs)).all (· ≤ reachBytes) = true := hsz0
  have hval : ∀ (j : Nat) t v, Try.f10.params[j]? = some t → args[j]? = some v → Value.okWide Try.prog W .any base t v := hval0
  have hW' := hW
  obtain ⟨p, q, hA0, hV, rfl, hfz, hnd⟩ := hW
  have hA : DataW.TrodAll enc Try.prog W 0 (fun _ => true) true Try.f10.params.toList args.toList ds p := hA0
  rw [Try.params10] at hA hval hsz
  obtain ⟨v0, vs0, d0, ds0, p0, q0, hargs, rfl, rfl, h0, rr0⟩ := trodAll_cons hA
  obtain ⟨rfl, rfl, rfl⟩ := trodAll_nil rr0
  obtain rfl : args = #[v0] := by cases args; simp_all
  obtain ⟨rfl, rfl⟩ := trodVars_none hV
  have t0 := h0
  have lt0 : ∀ x ∈ p0, x.block < W.heap.size := by obtain ⟨m, hm⟩ := t0; exact DataW.trod_lt m _ _ _ hm
  obtain ⟨a0, l0, c0, z0, rfl, k0, m0, r0, f0, u0, s0⟩ := openInts (hval 0 23 v0 rfl rfl) h0
  have b0 := s0 (sized_at hsz 0 rfl rfl)
  refine (walk a0 l0 c0 z0 W k0 m0 r0 f0 b0).mono fun e W' ⟨he, bel⟩ => ?_
  subst he
  exact ⟨_, rfl, _, _, _, [], _, [], hW', trodAll_mk1 (shut_bool Try.underlying4 _), (trodAll_cons_mk (Below.trod laidOut (by kernel_rfl) (of_decide_eq_true (by kernel_rfl)) t0 bel lt0) trodAll_mk0), rfl, bel.frame _, fun h => by cases h⟩

theorem over : Rows.fnThreeSortsRow.holds Try.pinned (OpenSpec.ofChange Rows.fnThreeSortsSpec) :=
  OpenClaim.holds_of_wide 10 Try.f10 rfl rfl rfl rfl rfl rfl rfl ⟨rfl, rfl, rfl, rfl, rfl⟩ rfl rfl rfl rfl rfl (by kernel_rfl) Try.func10 (by kernel_rfl)
    (of_decide_eq_true (by kernel_rfl)) (by unfold Func.isWrapper; first | (rw [if_pos (by decide +kernel)]; kernel_rfl) | (rw [if_neg (by decide +kernel)]; exact ⟨rfl, rfl⟩))
    (fun os started H enc _ => lifted os started H enc)

/-- the given statement -/
theorem proved : Rows.FnThreeSortsSaid := over
#print axioms proved
end Go.Proofs.Ytiocgmeonfanmaa.fnThreeSorts
