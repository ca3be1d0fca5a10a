/-
  FnSortedFunc: the law returns true at every input, and changes nothing that was there.
-/
import Derived.ProofKit
import Derived.OpenShut
import Derived.JoinedCond
import Derived.Deep.CondSized
import Derived.SizedLaws
import Derived.WalkKit
import Derived.WalkLawsBesides
import Derived.Outline
import Derived.Deep.DeepMust
import Derived.Deep.RegionWith
import Derived.Test.YtiocgmeonfanmaaOpen
import Derived.Test.YtiocgmeonfanmaaOpenO
import Derived.Test.YtiocgmeonfanmaaOpenP
import Derived.Test.YtiocgmeonfanmaaSoF
import Derived.Test.YtiocgmeonfanmaaWeak
import Derived.Test.YtiocgmeonfanmaaOrdP
import Derived.Test.YtiocgmeonfanmaaCntI
import Derived.Test.YtiocgmeonfanmaaStab
namespace Go.Proofs.Ytiocgmeonfanmaa.fnSortedFunc
open Go.ChangeShapes Go.WideShapes Go.ChangeAt Go.RowKit
set_option linter.unusedVariables false
set_option linter.unusedSimpArgs false

theorem sts_exists {s : Int} {os : List Int} {zs : List (Int × Int)} (hw : WeakP s os zs) : ∃ us, StS s os zs us := by
  cases hz : zs with
  | nil => exact ⟨[], StS.nil s os⟩
  | cons z zt =>
    rw [← hz]
    have hm : zs.length = zt.length + 1 := by rw [hz]; rfl
    refine ⟨_, items_sts hm (insertion_perm (ltOf (cfI s os (itF zs zt.length))) (idxs zt.length) 0 (idxs zt.length).size (Nat.le_refl _)) (insertion_ord (hw.swo _ (itF_mem hm)) _ 0 _ (Nat.zero_le _) (Nat.le_refl _) (fun p q _ hpq hq => ?_))⟩
    rw [idxs_size] at hq
    rw [idxs_at _ _ (by omega), idxs_at _ _ hq]
    exact hpq
set_option maxRecDepth 100000 in
set_option maxHeartbeats 4000000 in
theorem walk (a0 : Option Addr) (l0 c0 : Nat) (z0 : List (Int × Int)) (s1 : Int) (a1 : Option Addr) (l1 c1 : Nat) (z1 : List Int) (w : World) (k0 : l0 ≤ c0) (m0 : c0 ≤ maxLen) (r0 : Rd w w.heap.size 2 a0 l0 (pairs z0)) (f0 : ∀ x ∈ z0, (Lit.int .i64 x.1).wf = true ∧ (Lit.int .i64 x.2).wf = true) (g1 : (Lit.int .i64 s1).wf = true) (k1 : l1 ≤ c1) (m1 : c1 ≤ maxLen) (r1 : Rd w w.heap.size 1 a1 l1 (ints z1)) (f1 : ∀ x ∈ z1, (Lit.int .i64 x).wf = true) (b0 : l0 * 16 ≤ 140737488351232) (b1 : l1 * 8 ≤ 140737488351232) :
    Calls Try.prog 8 #[.slice a0 l0 c0, .agg #[.int .i64 s1, .slice a1 l1 c1]] w fun e w' => e = .returned (.bool true) ∧ Below w.heap.size w w' := by
  have hl1 : l1 ≤ 9223372036854775807 := by unfold maxLen at *; omega
  have mixed := mixedI
  obtain ⟨nb, hnb, hlb⟩ : ∃ nb : Bool, decide (z0 = []) = nb ∧ ((l0 : Int) == 0) = nb := by
    refine ⟨_, rfl, ?_⟩
    have hz : z0.length = l0 := by have := r0.1; rw [pairs_length] at this; omega
    cases z0 with
    | nil => subst hz; rfl
    | cons p z => subst hz; simp; omega
  have hne : (nb != nb) = false := by simp
  have HNB := hide hnb
  clear hnb
  go_enter Try.func8, Try.ntmps8
  go_wp2_with fail
  obtain ⟨w1, hw1⟩ : ∃ w1, w1 = w.alloc (.cells #[.int .i64 s1, .slice a1 l1 c1] 25) := ⟨_, rfl⟩
  have G1 : Below w.heap.size w w1 := by rw [hw1]; exact (Below.refl _ w).alloc (Nat.le_refl _) _
  have o0 : w1.cell? ⟨w.heap.size, 0, none⟩ = some (.int .i64 s1) := by rw [hw1]; simp [go_sem]
  have o1 : w1.cell? ⟨w.heap.size, 1, none⟩ = some (.slice a1 l1 c1) := by rw [hw1]; simp [go_sem]
  have lt1 : w.heap.size < w1.heap.size := by rw [hw1]; simp
  rw [← hw1]
  clear hw1
  refine (lawsSo s1 a1 l1 c1 w1).mono ?_
  rintro _ w4 ⟨rfl, g4⟩
  have G4 : Below w.heap.size w w4 := G1.trans (g4.mono G1.size)
  go_wp2_with fail
  refine (lawsSItems a0 l0 c0 w.heap.size z0 w4 (r0.below G4) G4.size b0).mono ?_
  rintro _ w5 ⟨A5, d5, rfl, own5, g5⟩
  have G5 : Below w.heap.size w w5 := G4.trans (g5.mono G4.size)
  have G15 : Below w1.heap.size w1 w5 := g4.trans (g5.mono g4.size)
  go_wp2_with fail
  refine (specWeak s1 a1 l1 c1 w.heap.size z1 A5 l0 d5 w5.heap.size z0 w5 (r1.below G5) G5.size (Rd.of_own own5) (Nat.le_refl _) hl1 (by omega)).mono ?_
  rintro _ w6 ⟨rfl, g6⟩
  have G6 : Below w.heap.size w w6 := G5.trans (g6.mono G5.size)
  have G16 : Below w1.heap.size w1 w6 := G15.trans (g6.mono G15.size)
  have o06 : w6.cell? ⟨w.heap.size, 0, none⟩ = some (.int .i64 s1) := (G16.cell (p := ⟨w.heap.size, 0, none⟩) lt1).trans o0
  have o16 : w6.cell? ⟨w.heap.size, 1, none⟩ = some (.slice a1 l1 c1) := (G16.cell (p := ⟨w.heap.size, 1, none⟩) lt1).trans o1
  have lt6 : w.heap.size < w6.heap.size := Nat.lt_of_lt_of_le lt1 G16.size
  clear own5 g6 g5 g4 G15 G4 G5 G16 o0 o1 lt1 G1
  by_cases hw : WeakP s1 z1 z0
  · rw [weakB_true hw]
    have HW := hide hw
    clear hw
    go_wp2_with fail
    refine (implSortedFunc a0 l0 c0 z0 s1 a1 l1 c1 z1 b0 hl1 w6 ((r0.below G6).more G6.size) ((r1.below G6).more G6.size)).mono ?_
    rintro _ w2 ⟨A2, d2, ts, rfl, hp, hst, own2, g2⟩
    rw [HNB.out]
    have HP := hide hp
    have HST := hide (hst HW.out)
    have q2 := Rd.of_own own2
    have G2 : Below w.heap.size w w2 := G6.trans (g2.mono G6.size)
    have o02 : w2.cell? ⟨w.heap.size, 0, none⟩ = some (.int .i64 s1) := (g2.cell (p := ⟨w.heap.size, 0, none⟩) lt6).trans o06
    have o12 : w2.cell? ⟨w.heap.size, 1, none⟩ = some (.slice a1 l1 c1) := (g2.cell (p := ⟨w.heap.size, 1, none⟩) lt6).trans o16
    have lt2 : w.heap.size < w2.heap.size := Nat.lt_of_lt_of_le lt6 g2.size
    have HC := hide (permutedI A2 a0 l0 d2 c0 w2.heap.size w2.heap.size ts z0 w2 q2 (Nat.le_refl _) ((r0.below G2).more G2.size) (Nat.le_refl _) HP.out (by omega))
    clear hp hst own2 g2 o06 o16 lt6 G6
    go_wp2_with fail
    refine HC.out.mono ?_
    rintro _ w3 ⟨rfl, g3⟩
    have G3 : Below w.heap.size w w3 := G2.trans (g3.mono G2.size)
    have q3 := (q2.below g3).more g3.size
    have o03 : w3.cell? ⟨w.heap.size, 0, none⟩ = some (.int .i64 s1) := (g3.cell (p := ⟨w.heap.size, 0, none⟩) lt2).trans o02
    have o13 : w3.cell? ⟨w.heap.size, 1, none⟩ = some (.slice a1 l1 c1) := (g3.cell (p := ⟨w.heap.size, 1, none⟩) lt2).trans o12
    have lt3 : w.heap.size < w3.heap.size := Nat.lt_of_lt_of_le lt2 g3.size
    clear HC g3 q2 o02 o12 lt2 G2
    obtain ⟨us, HUS⟩ := sts_exists HW.out
    have HUS := hide HUS
    have HZE := hide (fun (i : Nat) (a b : Int × Int) (ha : us[i]? = some a) (hb : ts[i]? = some b) => cmp_zero HW.out HUS.out.perm HP.out HUS.out.sro HST.out ha hb)
    have G : Below w.heap.size w w3.drew := G3.drew
    have K : Below w3.heap.size w3 w3.drew := (Below.refl _ _).drew
    have o0 : w3.drew.cell? ⟨w.heap.size, 0, none⟩ = some (.int .i64 s1) := o03
    have o1 : w3.drew.cell? ⟨w.heap.size, 1, none⟩ = some (.slice a1 l1 c1) := o13
    have lt : w.heap.size < w3.drew.heap.size := lt3
    clear o03 o13 lt3 G3
    go_wp2_with fail
    go_region_with (first
      | (go_at_call 15; refine (lawsSItems a0 l0 c0 w.heap.size z0 _ (r0.below G) G.size b0).mono ?_; rintro _ W ⟨A5, d5, rfl, own5, g⟩; have q5 := Rd.of_own own5; clear own5; have G := G.trans (g.mono G.size); have K := K.trans (g.mono K.size); have o0 := (g.cell (p := ⟨w.heap.size, 0, none⟩) lt).trans o0; have o1 := (g.cell (p := ⟨w.heap.size, 1, none⟩) lt).trans o1; have lt := Nat.lt_of_lt_of_le lt g.size)
      | (go_at_call 14; refine (lawsSo s1 a1 l1 c1 _).mono ?_; rintro _ W ⟨rfl, g⟩; have G := G.trans (g.mono G.size); have K := K.trans (g.mono K.size); have q5 := (q5.below g).more g.size; have o0 := (g.cell (p := ⟨w.heap.size, 0, none⟩) lt).trans o0; have o1 := (g.cell (p := ⟨w.heap.size, 1, none⟩) lt).trans o1; have lt := Nat.lt_of_lt_of_le lt g.size)
      | (go_at_call 19; refine (specStable s1 a1 l1 c1 w.heap.size z1 A5 l0 d5 _ z0 us HW.out HUS.out _ (r1.below G) G.size q5 (Nat.le_refl _) hl1 b0).mono ?_; rintro _ W ⟨A7, d7, rfl, own7, g⟩; have q7 := Rd.of_own own7; clear own7; have G := G.trans (g.mono G.size); have K := K.trans (g.mono K.size); have o0 := (g.cell (p := ⟨w.heap.size, 0, none⟩) lt).trans o0; have o1 := (g.cell (p := ⟨w.heap.size, 1, none⟩) lt).trans o1; have lt := Nat.lt_of_lt_of_le lt g.size))
    all_goals (
      have q2 := (q3.below K).more K.size
      clear q5 K g
      have HG : Hid (∀ (x1 x2 y1 y2 : Int) (V : World), Below W.heap.size W V → ∀ k ob, Calls Try.prog 16 #[.agg #[.int .i64 s1, .slice a1 l1 c1], .agg #[.int .i64 x1, .int .i64 x2], .agg #[.int .i64 y1, .int .i64 y2]] (Go.Sort.grow (V.drewN k) ob) fun e w' => e = .returned (.int .i64 (cmpO s1 z1 x1 y1)) ∧ ∃ q os', w' = Go.Sort.grow ((Go.Sort.grow (V.drewN k) ob).drewN q) os') := hide fun x1 x2 y1 y2 V hW k ob => by
        have hW1 : Below w.heap.size w V := G.trans (hW.mono G.size)
        have hW2 := hW1.trans (below_grow V hW1.size k ob)
        refine (compareS s1 a1 l1 c1 w.heap.size z1 (x1, x2) (y1, y2) _ (r1.below hW2) hW2.size hl1).mono ?_
        rintro e w' ⟨he, rfl⟩
        exact ⟨he, 0, #[_, _, _], rfl⟩
      (try go_simp)
      go_wp2_with fail
      go_loopw [38] (fun vi wr => ∃ i : Nat, vi = .int .i64 i ∧ i ≤ l0 ∧ Below W.heap.size W wr) (fun vi _ => l0 - (intOf vi).toNat)
      case atStart => exact ⟨0, rfl, Nat.zero_le _, Below.refl _ _⟩
      case round =>
        obtain ⟨i, rfl, hi, hB⟩ := hrel
        by_cases hlt : i < l0
        · have hltz : (i : Int) < (l0 : Int) := by omega
          obtain ⟨ba, offa, x1, x2, hAa, hba, hxa, hca1, hca2⟩ := (q7.below hB).pair hlt
          obtain ⟨bb, offb, y1, y2, hAb, hbb, hxb, hcb1, hcb2⟩ := q2.pair hlt
          subst hAa hAb
          obtain ⟨Ba, hBa⟩ : ∃ Ba, Ba = wr.heap.size := ⟨_, rfl⟩
          obtain ⟨wA, hwA⟩ : ∃ V, V = wr.alloc (.cells #[.int .i64 x1, .int .i64 x2] 35) := ⟨_, rfl⟩
          have GA : Below W.heap.size W wA := by rw [hwA]; exact hB.alloc hB.size _
          have gA : Below wr.heap.size wr wA := by rw [hwA]; exact (Below.refl _ wr).alloc (Nat.le_refl _) _
          have a0A : wA.cell? ⟨Ba, 0, none⟩ = some (.int .i64 x1) := by rw [hwA, hBa]; simp [go_sem]
          have a1A : wA.cell? ⟨Ba, 1, none⟩ = some (.int .i64 x2) := by rw [hwA, hBa]; simp [go_sem]
          have ltaA : Ba < wA.heap.size := by rw [hwA, hBa]; simp
          have ka1 : ∀ n os, (Go.Sort.grow (wA.drewN n) os).cell? ⟨Ba, 0, none⟩ = some (.int .i64 x1) := fun n os => cell_grown (a := ⟨Ba, 0, none⟩) ltaA a0A n os
          have ka2 : ∀ n os, (Go.Sort.grow (wA.drewN n) os).cell? ⟨Ba, 1, none⟩ = some (.int .i64 x2) := fun n os => cell_grown (a := ⟨Ba, 1, none⟩) ltaA a1A n os
          have kb1 : ∀ n os, (Go.Sort.grow (wA.drewN n) os).cell? ⟨bb, offb + i * 2, none⟩ = some (.int .i64 y1) := fun n os => cell_grown (a := ⟨bb, offb + i * 2, none⟩) (Nat.lt_of_lt_of_le hbb GA.size) ((GA.cell (p := ⟨bb, offb + i * 2, none⟩) hbb).trans hcb1) n os
          have kb2 : ∀ n os, (Go.Sort.grow (wA.drewN n) os).cell? ⟨bb, offb + i * 2 + 1, none⟩ = some (.int .i64 y2) := fun n os => cell_grown (a := ⟨bb, offb + i * 2 + 1, none⟩) (Nat.lt_of_lt_of_le hbb GA.size) ((GA.cell (p := ⟨bb, offb + i * 2 + 1, none⟩) hbb).trans hcb2) n os
          have ko0 : ∀ n os, (Go.Sort.grow (wA.drewN n) os).cell? ⟨w.heap.size, 0, none⟩ = some (.int .i64 s1) := fun n os => cell_grown (a := ⟨w.heap.size, 0, none⟩) (Nat.lt_of_lt_of_le lt GA.size) ((GA.cell (p := ⟨w.heap.size, 0, none⟩) lt).trans o0) n os
          have ko1 : ∀ n os, (Go.Sort.grow (wA.drewN n) os).cell? ⟨w.heap.size, 1, none⟩ = some (.slice a1 l1 c1) := fun n os => cell_grown (a := ⟨w.heap.size, 1, none⟩) (Nat.lt_of_lt_of_le lt GA.size) ((GA.cell (p := ⟨w.heap.size, 1, none⟩) lt).trans o1) n os
          have HSG : Hid (∀ k ob, Calls Try.prog 14 #[.agg #[.int .i64 s1, .slice a1 l1 c1]] (Go.Sort.grow (wA.drewN k) ob) fun e w' => e = .returned (.agg #[.int .i64 s1, .slice a1 l1 c1]) ∧ ∃ q os', w' = Go.Sort.grow ((Go.Sort.grow (wA.drewN k) ob).drewN q) os') := hide fun k ob => lawsSoG s1 a1 l1 c1 _
          have hz : cmpO s1 z1 x1 y1 = 0 := HZE.out i (x1, x2) (y1, y2) hxa.out hxb.out
          have hcz1 := hca1
          have hcz2 := hca2
          clear hcb1 hcb2 hxa hxb a0A a1A
          go_wp2_with fail
          rw [← hBa, ← hwA]
          clear hwA hBa hca1 hca2 hcz1 hcz2
          go_quiet_grown (first | (go_at_call 16; refine Calls.grown_of (HG.out _ _ _ _ wA GA _ _)) | (go_at_call 14; refine Calls.grown_of (HSG.out _ _)))
          have hB2 := GA.trans (below_grow wA GA.size nq osq)
          clear ka1 ka2 kb1 kb2 ko0 ko1
          generalize Go.Sort.grow (wA.drewN nq) osq = wn at hB2 ⊢
          clear nq osq
          go_wp2_with fail
          go_roundw
          case rel => exact ⟨i + 1, by go_num, by omega, hB2⟩
          case measure => first | (simp [intOf]; omega) | simp [intOf]
        · obtain rfl : i = l0 := by omega
          have hltz : ¬ (i : Int) < (i : Int) := by omega
          go_wp2_with fail
          go_ret
          exact ⟨rfl, G.trans (hB.mono G.size)⟩)
  · rw [weakB_false hw]
    go_wp2_with fail
    go_ret
    exact ⟨rfl, G6⟩

set_option maxRecDepth 100000 in
theorem lifted (os : Os) (started : os.Started) (H : Type) (enc : TypeId × Value → H) :
    ReturnsInHanded {} Try.checked os 8 .any (Rows.fnSortedFuncSpec.pre6 enc Try.prog Try.f8 Rows.fnSortedFuncRow.domain false) (Rows.fnSortedFuncSpec.post enc Try.prog Try.f8 false true false false) := by
  refine returnsInHanded_of_change_sized (C := Try.checked) own started (by kernel_rfl) Try.func8
    (ChangeSpec.witness6 (enc := enc) (C := Try.checked) false ⟨#[], #[.slice none 0 0, .agg #[.int .i64 0, .slice none 0 0]], []⟩ 8 (by kernel_rfl) (by kernel_rfl) (by kernel_rfl) (by kernel_rfl)) ?_
  intro W base args ds gs before hval0 hW _ hsz0 _
  have hsz : (DataW.weightsEach Try.prog (Try.f8.params.toList ++ Rows.fnSortedFuncSpec.plain.varTypes Try.prog) (ds ++ gs)).all (· ≤ reachBytes) = true := hsz0
  have hval : ∀ (j : Nat) t v, Try.f8.params[j]? = some t → args[j]? = some v → Value.okWide Try.prog W .any base t v := hval0
  have hW' := hW
  obtain ⟨p, q, hA0, hV, rfl, hfz, hnd⟩ := hW
  have hA : DataW.TrodAll enc Try.prog W 0 (fun _ => true) true Try.f8.params.toList args.toList ds p := hA0
  rw [Try.params8] at hA hval hsz
  obtain ⟨v0, vs0, d0, ds0, p0, q0, hargs, rfl, rfl, h0, rr0⟩ := trodAll_cons hA
  obtain ⟨v1, vs1, d1, ds1, p1, q1, rfl, rfl, rfl, h1, rr1⟩ := trodAll_cons rr0
  obtain ⟨rfl, rfl, rfl⟩ := trodAll_nil rr1
  obtain rfl : args = #[v0, v1] := by cases args; simp_all
  obtain ⟨rfl, rfl⟩ := trodVars_none hV
  have t0 := h0
  have lt0 : ∀ x ∈ p0, x.block < W.heap.size := by obtain ⟨m, hm⟩ := t0; exact DataW.trod_lt m _ _ _ hm
  obtain ⟨a0, l0, c0, z0, rfl, k0, m0, r0, f0, u0, s0⟩ := openPairs (hval 0 22 v0 rfl rfl) h0
  have b0 := s0 (sized_at hsz 0 rfl rfl)
  have t1 := h1
  have lt1 : ∀ x ∈ p1, x.block < W.heap.size := by obtain ⟨m, hm⟩ := t1; exact DataW.trod_lt m _ _ _ hm
  obtain ⟨s1, a1, l1, c1, z1, rfl, g1, k1, m1, r1, f1, u1, sz1⟩ := openOrder (hval 1 25 v1 rfl rfl) h1
  have b1 := sz1 (sized_at hsz 1 rfl rfl)
  refine (walk a0 l0 c0 z0 s1 a1 l1 c1 z1 W k0 m0 r0 f0 g1 k1 m1 r1 f1 b0 b1).mono fun e W' ⟨he, bel⟩ => ?_
  subst he
  exact ⟨_, rfl, _, _, _, [], _, [], hW', trodAll_mk1 (shut_bool Try.underlying4 _), (trodAll_cons_mk (Below.trod laidOut (by kernel_rfl) (of_decide_eq_true (by kernel_rfl)) t0 bel lt0) (trodAll_cons_mk (Below.trod laidOut (by kernel_rfl) (of_decide_eq_true (by kernel_rfl)) t1 bel lt1) trodAll_mk0)), rfl, bel.frame _, fun h => by cases h⟩

theorem over : Rows.fnSortedFuncRow.holds Try.pinned (OpenSpec.ofChange Rows.fnSortedFuncSpec) :=
  OpenClaim.holds_of_wide 8 Try.f8 rfl rfl rfl rfl rfl rfl rfl ⟨rfl, rfl, rfl, rfl, rfl⟩ rfl rfl rfl rfl rfl (by kernel_rfl) Try.func8 (by kernel_rfl)
    (of_decide_eq_true (by kernel_rfl)) (by unfold Func.isWrapper; first | (rw [if_pos (by decide +kernel)]; kernel_rfl) | (rw [if_neg (by decide +kernel)]; exact ⟨rfl, rfl⟩))
    (fun os started H enc _ => lifted os started H enc)

/-- the given statement -/
theorem proved : Rows.FnSortedFuncSaid := over
#print axioms proved
end Go.Proofs.Ytiocgmeonfanmaa.fnSortedFunc
