/-
  FnSortedStableFunc: the law returns true at every input, and changes nothing that was there.
-/
import Derived.ProofKit
import Derived.OpenShut
import Derived.JoinedCond
import Derived.Deep.CondSized
import Derived.SizedLaws
import Derived.WalkKit
import Derived.WalkLawsBesides
import Derived.Outline
import Derived.Deep.DeepMust
import Derived.Deep.RegionWith
import Derived.Test.YtiocgmeonfanmaaOpen
import Derived.Test.YtiocgmeonfanmaaOpenO
import Derived.Test.YtiocgmeonfanmaaOpenP
import Derived.Test.YtiocgmeonfanmaaSoS
import Derived.Test.YtiocgmeonfanmaaWeak
import Derived.Test.YtiocgmeonfanmaaEqI
import Derived.Test.YtiocgmeonfanmaaStab
namespace Go.Proofs.Ytiocgmeonfanmaa.fnSortedStableFunc
open Go.ChangeShapes Go.WideShapes Go.ChangeAt Go.RowKit
set_option linter.unusedVariables false
set_option linter.unusedSimpArgs false

set_option maxRecDepth 100000 in
set_option maxHeartbeats 4000000 in
theorem walk (a0 : Option Addr) (l0 c0 : Nat) (z0 : List (Int × Int)) (s1 : Int) (a1 : Option Addr) (l1 c1 : Nat) (z1 : List Int) (w : World) (k0 : l0 ≤ c0) (m0 : c0 ≤ maxLen) (r0 : Rd w w.heap.size 2 a0 l0 (pairs z0)) (f0 : ∀ x ∈ z0, (Lit.int .i64 x.1).wf = true ∧ (Lit.int .i64 x.2).wf = true) (g1 : (Lit.int .i64 s1).wf = true) (k1 : l1 ≤ c1) (m1 : c1 ≤ maxLen) (r1 : Rd w w.heap.size 1 a1 l1 (ints z1)) (f1 : ∀ x ∈ z1, (Lit.int .i64 x).wf = true) (b0 : l0 * 16 ≤ 140737488351232) (b1 : l1 * 8 ≤ 140737488351232) :
    Calls Try.prog 4 #[.slice a0 l0 c0, .agg #[.int .i64 s1, .slice a1 l1 c1]] w fun e w' => e = .returned (.bool true) ∧ Below w.heap.size w w' := by
  have hl1 : l1 ≤ 9223372036854775807 := by unfold maxLen at *; omega
  have mixed := mixedI
  obtain ⟨nb, hnb, hlb⟩ : ∃ nb : Bool, decide (z0 = []) = nb ∧ ((l0 : Int) == 0) = nb := by
    refine ⟨_, rfl, ?_⟩
    have hz : z0.length = l0 := by have := r0.1; rw [pairs_length] at this; omega
    cases z0 with
    | nil => subst hz; rfl
    | cons p z => subst hz; simp; omega
  go_enter Try.func4, Try.ntmps4
  go_wp2_with fail
  obtain ⟨w1, hw1⟩ : ∃ w1, w1 = w.alloc (.cells #[.int .i64 s1, .slice a1 l1 c1] 25) := ⟨_, rfl⟩
  have g1 : Below w.heap.size w w1 := by rw [hw1]; exact (Below.refl _ w).alloc (Nat.le_refl _) _
  have k0 : w1.cell? ⟨w.heap.size, 0, none⟩ = some (.int .i64 s1) := by rw [hw1]; simp [go_sem]
  have k1' : w1.cell? ⟨w.heap.size, 1, none⟩ = some (.slice a1 l1 c1) := by rw [hw1]; simp [go_sem]
  have lt1 : w.heap.size < w1.heap.size := by rw [hw1]; simp
  rw [← hw1]
  clear hw1
  refine (implSortedStable a0 l0 c0 z0 s1 a1 l1 c1 z1 b0 hl1 w1 ((r0.below g1).more g1.size) ((r1.below g1).more g1.size)).mono ?_
  rintro _ w2 ⟨A2, d2, ts, rfl, hp, hst, own2, g2⟩
  rw [hnb]
  have HST := hide hst
  have q2 := Rd.of_own own2
  have G2 : Below w.heap.size w w2 := g1.trans (g2.mono g1.size)
  have o0 : w2.drew.cell? ⟨w.heap.size, 0, none⟩ = some (.int .i64 s1) := (g2.cell (p := ⟨w.heap.size, 0, none⟩) lt1).trans k0
  have o1 : w2.drew.cell? ⟨w.heap.size, 1, none⟩ = some (.slice a1 l1 c1) := (g2.cell (p := ⟨w.heap.size, 1, none⟩) lt1).trans k1'
  have lt : w.heap.size < w2.drew.heap.size := Nat.lt_of_lt_of_le lt1 g2.size
  have G : Below w.heap.size w w2.drew := G2.drew
  have K2 : Below w2.heap.size w2 w2.drew := (Below.refl _ _).drew
  clear hp hst own2 hnb
  have hbb : (nb == nb) = true := by simp
  go_wp2_with fail
  by_cases hw : WeakP s1 z1 z0
  · have HWB := hide (weakB_true hw)
    have HW := hide hw
    have HTS := hide (HST.out hw)
    clear hw k0 k1' lt1 g1 g2 G2
    refine wp_region_any mixed ?_
    change wpAny _ _ _ _ _ _ _ w2.drew
    refine wpAny_take (i := 2) (v := ?v1) rfl (by kernel_rfl) (by kernel_rfl) (by kernel_rfl) (fun _ _ _ h => h) (Or.inl ⟨by rfl, ?y1⟩) ?r1
    case y1 => (intro w; go_simp; try with_reducible rfl)
    (try go_simp)
    refine wpAny_ready (rs := [0]) (by kernel_rfl) (by simp) ?_
    refine AllReady.cons rfl (fun K hK => ?_) AllReady.nil
    go_simp
    refine hK _ _ ?_
    clear hK K
    refine wpAny_ready (rs := [1]) (by kernel_rfl) (by simp) ?_
    refine AllReady.cons rfl (fun K hK => ?_) AllReady.nil
    go_simp
    go_wp2_with (go_at_call 14; refine (lawsSo s1 a1 l1 c1 _).mono ?_; rintro _ W ⟨rfl, g⟩; have G := G.trans (g.mono G.size); have K2 := K2.trans (g.mono K2.size); have o0 := (g.cell (p := ⟨w.heap.size, 0, none⟩) lt).trans o0; have o1 := (g.cell (p := ⟨w.heap.size, 1, none⟩) lt).trans o1; have lt := Nat.lt_of_lt_of_le lt g.size)
    refine wpAny_ready (rs := [3]) (by kernel_rfl) (by simp) ?_
    refine AllReady.cons rfl (fun K hK => ?_) AllReady.nil
    go_simp
    go_wp2_with (go_at_call 15; refine (lawsSItems a0 l0 c0 w.heap.size z0 _ (r0.below G) G.size b0).mono ?_; rintro _ W ⟨A5, d5, rfl, own5, g⟩; have q5 := Rd.of_own own5; clear own5; have G := G.trans (g.mono G.size); have K2 := K2.trans (g.mono K2.size); have o0 := (g.cell (p := ⟨w.heap.size, 0, none⟩) lt).trans o0; have o1 := (g.cell (p := ⟨w.heap.size, 1, none⟩) lt).trans o1; have lt := Nat.lt_of_lt_of_le lt g.size)
    refine wpAny_ready (rs := [4]) (by kernel_rfl) (by simp) ?_
    refine AllReady.cons rfl (fun K hK => ?_) AllReady.nil
    go_simp
    go_wp2_with (go_at_call 13; refine (specWeak s1 a1 l1 c1 w.heap.size z1 A5 l0 d5 _ z0 _ (r1.below G) G.size q5 (Nat.le_refl _) hl1 (by omega)).mono ?_; rintro _ W ⟨rfl, g⟩; rw [HWB.out]; have G := G.trans (g.mono G.size); have K2 := K2.trans (g.mono K2.size); have o0 := (g.cell (p := ⟨w.heap.size, 0, none⟩) lt).trans o0; have o1 := (g.cell (p := ⟨w.heap.size, 1, none⟩) lt).trans o1; have lt := Nat.lt_of_lt_of_le lt g.size; clear q5)
    refine wpAny_take (i := 5) (v := ?v2) rfl (by kernel_rfl) (by kernel_rfl) (by kernel_rfl) (fun _ _ _ h => h) (Or.inl ⟨by rfl, ?y2⟩) ?r2
    case y2 => (intro w; go_simp; try with_reducible rfl)
    (try go_simp)
    refine wpAny_take (i := 6) (v := ?v3) rfl (by kernel_rfl) (by kernel_rfl) (by kernel_rfl) (fun _ _ _ h => h) (Or.inl ⟨by rfl, ?y3⟩) ?r3
    case y3 => (intro w; go_simp; try with_reducible rfl)
    (try go_simp)
    refine wpAny_take (i := 7) (v := ?v4) rfl (by kernel_rfl) (by kernel_rfl) (by kernel_rfl) (fun _ _ _ h => h) (Or.inl ⟨by rfl, ?y4⟩) ?r4
    case y4 => (intro w; go_simp; try with_reducible rfl)
    (try go_simp)
    refine wpAny_take (i := 8) (v := ?v5) rfl (by kernel_rfl) (by kernel_rfl) (by kernel_rfl) (fun _ _ _ h => h) (Or.inl ⟨by rfl, ?y5⟩) ?r5
    case y5 => (intro w; go_simp; try with_reducible rfl)
    (try go_simp)
    refine wpAny_take (i := 9) (v := ?v6) rfl (by kernel_rfl) (by kernel_rfl) (by kernel_rfl) (fun _ _ _ h => h) (Or.inl ⟨by rfl, ?y6⟩) ?r6
    case y6 => (intro w; go_simp; try with_reducible rfl)
    (try go_simp)
    refine wpAny_take (i := 10) (v := ?v7) rfl (by kernel_rfl) (by kernel_rfl) (by kernel_rfl) (fun _ _ _ h => h) (Or.inl ⟨by rfl, ?y7⟩) ?r7
    case y7 => (intro w; go_simp; try with_reducible rfl)
    (try go_simp)
    refine wpAny_take (i := 11) (v := ?v8) rfl (by kernel_rfl) (by kernel_rfl) (by kernel_rfl) (fun _ _ _ h => h) (Or.inl ⟨by rfl, ?y8⟩) ?r8
    case y8 => (intro w; go_simp; try with_reducible rfl)
    (try go_simp)
    refine wpAny_take (i := 12) (v := ?v9) rfl (by kernel_rfl) (by kernel_rfl) (by kernel_rfl) (fun _ _ _ h => h) (Or.inl ⟨by rfl, ?y9⟩) ?r9
    case y9 => (intro w; go_simp; try with_reducible rfl)
    (try go_simp)
    refine wpAny_take (i := 13) (v := ?v10) rfl (by kernel_rfl) (by kernel_rfl) (by kernel_rfl) (fun _ _ _ h => h) (Or.inl ⟨by rfl, ?y10⟩) ?r10
    case y10 => (intro w; go_simp; try with_reducible rfl)
    (try go_simp)
    refine wpAny_take (i := 14) (v := ?v11) rfl (by kernel_rfl) (by kernel_rfl) (by kernel_rfl) (fun _ _ _ h => h) (Or.inl ⟨by rfl, ?y11⟩) ?r11
    case y11 => (intro w; go_simp; try with_reducible rfl)
    (try go_simp)
    refine wpAny_ready (rs := [15, 16]) (by kernel_rfl) (by simp) ?_
    refine AllReady.cons rfl (fun K hK => ?_) (AllReady.cons rfl (fun K hK => ?_) AllReady.nil)
    · go_simp
      go_wp2_with (go_at_call 15; refine (lawsSItems a0 l0 c0 w.heap.size z0 _ (r0.below G) G.size b0).mono ?_; rintro _ W ⟨A5, d5, rfl, own5, g⟩; have q5 := Rd.of_own own5; clear own5; have G := G.trans (g.mono G.size); have K2 := K2.trans (g.mono K2.size); have o0 := (g.cell (p := ⟨w.heap.size, 0, none⟩) lt).trans o0; have o1 := (g.cell (p := ⟨w.heap.size, 1, none⟩) lt).trans o1; have lt := Nat.lt_of_lt_of_le lt g.size)
      refine wpAny_ready (rs := [16]) (by kernel_rfl) (by simp) ?_
      refine AllReady.cons rfl (fun K hK => ?_) AllReady.nil
      go_simp
      refine hK _ _ ?_
      clear hK K
      refine wpAny_ready (rs := [17]) (by kernel_rfl) (by simp) ?_
      refine AllReady.cons rfl (fun K hK => ?_) AllReady.nil
      go_simp
      go_wp2_with (go_at_call 14; refine (lawsSo s1 a1 l1 c1 _).mono ?_; rintro _ W ⟨rfl, g⟩; have G := G.trans (g.mono G.size); have K2 := K2.trans (g.mono K2.size); have o0 := (g.cell (p := ⟨w.heap.size, 0, none⟩) lt).trans o0; have o1 := (g.cell (p := ⟨w.heap.size, 1, none⟩) lt).trans o1; have lt := Nat.lt_of_lt_of_le lt g.size; have q5 := (q5.below g).more g.size)
      refine wpAny_ready (rs := [18]) (by kernel_rfl) (by simp) ?_
      refine AllReady.cons rfl (fun K hK => ?_) AllReady.nil
      go_simp
      go_wp2_with (go_at_call 19; refine (specStable s1 a1 l1 c1 w.heap.size z1 A5 l0 d5 _ z0 ts HW.out HTS.out _ (r1.below G) G.size q5 (Nat.le_refl _) hl1 b0).mono ?_; rintro _ W ⟨A7, d7, rfl, own7, g⟩; have q7 := Rd.of_own own7; clear own7; have G := G.trans (g.mono G.size); have K2 := K2.trans (g.mono K2.size); have o0 := (g.cell (p := ⟨w.heap.size, 0, none⟩) lt).trans o0; have o1 := (g.cell (p := ⟨w.heap.size, 1, none⟩) lt).trans o1; have lt := Nat.lt_of_lt_of_le lt g.size)
      refine wpAny_ready (rs := [19]) (by kernel_rfl) (by simp) ?_
      refine AllReady.cons rfl (fun K hK => ?_) AllReady.nil
      go_simp
      go_wp2_with (go_at_call 18; refine (lawsIItems A7 l0 d7 _ ts _ q7 (Nat.le_refl _) b0).mono ?_; rintro _ W ⟨A8, d8, rfl, own8, g⟩; have q8 := Rd.of_own own8; clear own8; have G := G.trans (g.mono G.size); have K2 := K2.trans (g.mono K2.size); have o0 := (g.cell (p := ⟨w.heap.size, 0, none⟩) lt).trans o0; have o1 := (g.cell (p := ⟨w.heap.size, 1, none⟩) lt).trans o1; have lt := Nat.lt_of_lt_of_le lt g.size)
      refine wpAny_ready (rs := [20]) (by kernel_rfl) (by simp) ?_
      refine AllReady.cons rfl (fun K hK => ?_) AllReady.nil
      go_simp
      go_wp2_with (go_at_call 17; refine (equalI A2 A8 l0 l0 d2 d8 w2.heap.size _ ts ts _ (q2.below K2) q8 (by omega)).mono ?_; rintro _ W ⟨rfl, hd⟩; rw [decide_eq_true rfl]; have G := G.trans (hd.below _))
      refine wpAny_take (i := 21) (v := ?v12) rfl (by kernel_rfl) (by kernel_rfl) (by kernel_rfl) (fun _ _ _ h => h) (Or.inl ⟨by rfl, ?y12⟩) ?r12
      case y12 => (intro w; go_simp; try with_reducible rfl)
      (try go_simp)
      refine wpAny_take (i := 22) (v := ?v13) rfl (by kernel_rfl) (by kernel_rfl) (by kernel_rfl) (fun _ _ _ h => h) (Or.inl ⟨by rfl, ?y13⟩) ?r13
      case y13 => (intro w; go_simp; try with_reducible rfl)
      (try go_simp)
      refine wpAny_take (i := 23) (v := ?v14) rfl (by kernel_rfl) (by kernel_rfl) (by kernel_rfl) (fun _ _ _ h => h) (Or.inl ⟨by rfl, ?y14⟩) ?r14
      case y14 => (intro w; go_simp; try with_reducible rfl)
      (try go_simp)
      refine wpAny_done (by kernel_rfl) ?_ _
      go_wp2_with fail
      go_ret
      exact ⟨rfl, G⟩
    · go_simp
      refine hK _ _ ?_
      clear hK K
      refine wpAny_ready (rs := [15]) (by kernel_rfl) (by simp) ?_
      refine AllReady.cons rfl (fun K hK => ?_) AllReady.nil
      go_simp
      go_wp2_with (go_at_call 15; refine (lawsSItems a0 l0 c0 w.heap.size z0 _ (r0.below G) G.size b0).mono ?_; rintro _ W ⟨A5, d5, rfl, own5, g⟩; have q5 := Rd.of_own own5; clear own5; have G := G.trans (g.mono G.size); have K2 := K2.trans (g.mono K2.size); have o0 := (g.cell (p := ⟨w.heap.size, 0, none⟩) lt).trans o0; have o1 := (g.cell (p := ⟨w.heap.size, 1, none⟩) lt).trans o1; have lt := Nat.lt_of_lt_of_le lt g.size)
      refine wpAny_ready (rs := [17]) (by kernel_rfl) (by simp) ?_
      refine AllReady.cons rfl (fun K hK => ?_) AllReady.nil
      go_simp
      go_wp2_with (go_at_call 14; refine (lawsSo s1 a1 l1 c1 _).mono ?_; rintro _ W ⟨rfl, g⟩; have G := G.trans (g.mono G.size); have K2 := K2.trans (g.mono K2.size); have o0 := (g.cell (p := ⟨w.heap.size, 0, none⟩) lt).trans o0; have o1 := (g.cell (p := ⟨w.heap.size, 1, none⟩) lt).trans o1; have lt := Nat.lt_of_lt_of_le lt g.size; have q5 := (q5.below g).more g.size)
      refine wpAny_ready (rs := [18]) (by kernel_rfl) (by simp) ?_
      refine AllReady.cons rfl (fun K hK => ?_) AllReady.nil
      go_simp
      go_wp2_with (go_at_call 19; refine (specStable s1 a1 l1 c1 w.heap.size z1 A5 l0 d5 _ z0 ts HW.out HTS.out _ (r1.below G) G.size q5 (Nat.le_refl _) hl1 b0).mono ?_; rintro _ W ⟨A7, d7, rfl, own7, g⟩; have q7 := Rd.of_own own7; clear own7; have G := G.trans (g.mono G.size); have K2 := K2.trans (g.mono K2.size); have o0 := (g.cell (p := ⟨w.heap.size, 0, none⟩) lt).trans o0; have o1 := (g.cell (p := ⟨w.heap.size, 1, none⟩) lt).trans o1; have lt := Nat.lt_of_lt_of_le lt g.size)
      refine wpAny_ready (rs := [19]) (by kernel_rfl) (by simp) ?_
      refine AllReady.cons rfl (fun K hK => ?_) AllReady.nil
      go_simp
      go_wp2_with (go_at_call 18; refine (lawsIItems A7 l0 d7 _ ts _ q7 (Nat.le_refl _) b0).mono ?_; rintro _ W ⟨A8, d8, rfl, own8, g⟩; have q8 := Rd.of_own own8; clear own8; have G := G.trans (g.mono G.size); have K2 := K2.trans (g.mono K2.size); have o0 := (g.cell (p := ⟨w.heap.size, 0, none⟩) lt).trans o0; have o1 := (g.cell (p := ⟨w.heap.size, 1, none⟩) lt).trans o1; have lt := Nat.lt_of_lt_of_le lt g.size)
      refine wpAny_ready (rs := [20]) (by kernel_rfl) (by simp) ?_
      refine AllReady.cons rfl (fun K hK => ?_) AllReady.nil
      go_simp
      go_wp2_with (go_at_call 17; refine (equalI A2 A8 l0 l0 d2 d8 w2.heap.size _ ts ts _ (q2.below K2) q8 (by omega)).mono ?_; rintro _ W ⟨rfl, hd⟩; rw [decide_eq_true rfl]; have G := G.trans (hd.below _))
      refine wpAny_take (i := 21) (v := ?v15) rfl (by kernel_rfl) (by kernel_rfl) (by kernel_rfl) (fun _ _ _ h => h) (Or.inl ⟨by rfl, ?y15⟩) ?r15
      case y15 => (intro w; go_simp; try with_reducible rfl)
      (try go_simp)
      refine wpAny_take (i := 22) (v := ?v16) rfl (by kernel_rfl) (by kernel_rfl) (by kernel_rfl) (fun _ _ _ h => h) (Or.inl ⟨by rfl, ?y16⟩) ?r16
      case y16 => (intro w; go_simp; try with_reducible rfl)
      (try go_simp)
      refine wpAny_take (i := 23) (v := ?v17) rfl (by kernel_rfl) (by kernel_rfl) (by kernel_rfl) (fun _ _ _ h => h) (Or.inl ⟨by rfl, ?y17⟩) ?r17
      case y17 => (intro w; go_simp; try with_reducible rfl)
      (try go_simp)
      refine wpAny_done (by kernel_rfl) ?_ _
      go_wp2_with fail
      go_ret
      exact ⟨rfl, G⟩
  · have HWB := hide (weakB_false hw)
    clear hw k0 k1' lt1 g1 g2 G2
    refine wp_region_any mixed ?_
    change wpAny _ _ _ _ _ _ _ w2.drew
    refine wpAny_take (i := 2) (v := ?vf1) rfl (by kernel_rfl) (by kernel_rfl) (by kernel_rfl) (fun _ _ _ h => h) (Or.inl ⟨by rfl, ?yf1⟩) ?rf1
    case yf1 => (intro w; go_simp; try with_reducible rfl)
    (try go_simp)
    refine wpAny_ready (rs := [0]) (by kernel_rfl) (by simp) ?_
    refine AllReady.cons rfl (fun K hK => ?_) AllReady.nil
    go_simp
    refine hK _ _ ?_
    clear hK K
    refine wpAny_ready (rs := [1]) (by kernel_rfl) (by simp) ?_
    refine AllReady.cons rfl (fun K hK => ?_) AllReady.nil
    go_simp
    go_wp2_with (go_at_call 14; refine (lawsSo s1 a1 l1 c1 _).mono ?_; rintro _ W ⟨rfl, g⟩; have G := G.trans (g.mono G.size); have K2 := K2.trans (g.mono K2.size); have o0 := (g.cell (p := ⟨w.heap.size, 0, none⟩) lt).trans o0; have o1 := (g.cell (p := ⟨w.heap.size, 1, none⟩) lt).trans o1; have lt := Nat.lt_of_lt_of_le lt g.size)
    refine wpAny_ready (rs := [3]) (by kernel_rfl) (by simp) ?_
    refine AllReady.cons rfl (fun K hK => ?_) AllReady.nil
    go_simp
    go_wp2_with (go_at_call 15; refine (lawsSItems a0 l0 c0 w.heap.size z0 _ (r0.below G) G.size b0).mono ?_; rintro _ W ⟨A5, d5, rfl, own5, g⟩; have q5 := Rd.of_own own5; clear own5; have G := G.trans (g.mono G.size); have K2 := K2.trans (g.mono K2.size); have o0 := (g.cell (p := ⟨w.heap.size, 0, none⟩) lt).trans o0; have o1 := (g.cell (p := ⟨w.heap.size, 1, none⟩) lt).trans o1; have lt := Nat.lt_of_lt_of_le lt g.size)
    refine wpAny_ready (rs := [4]) (by kernel_rfl) (by simp) ?_
    refine AllReady.cons rfl (fun K hK => ?_) AllReady.nil
    go_simp
    go_wp2_with (go_at_call 13; refine (specWeak s1 a1 l1 c1 w.heap.size z1 A5 l0 d5 _ z0 _ (r1.below G) G.size q5 (Nat.le_refl _) hl1 (by omega)).mono ?_; rintro _ W ⟨rfl, g⟩; rw [HWB.out]; have G := G.trans (g.mono G.size); have K2 := K2.trans (g.mono K2.size); have o0 := (g.cell (p := ⟨w.heap.size, 0, none⟩) lt).trans o0; have o1 := (g.cell (p := ⟨w.heap.size, 1, none⟩) lt).trans o1; have lt := Nat.lt_of_lt_of_le lt g.size; clear q5)
    refine wpAny_take (i := 5) (v := ?vf2) rfl (by kernel_rfl) (by kernel_rfl) (by kernel_rfl) (fun _ _ _ h => h) (Or.inl ⟨by rfl, ?yf2⟩) ?rf2
    case yf2 => (intro w; go_simp; try with_reducible rfl)
    (try go_simp)
    refine wpAny_take (i := 6) (v := ?vf3) rfl (by kernel_rfl) (by kernel_rfl) (by kernel_rfl) (fun _ _ _ h => h) (Or.inl ⟨by rfl, ?yf3⟩) ?rf3
    case yf3 => (intro w; go_simp; try with_reducible rfl)
    (try go_simp)
    refine wpAny_take (i := 7) (v := undef) rfl (by kernel_rfl) (by kernel_rfl) (by kernel_rfl) (fun _ _ _ h => h) (Or.inr ⟨by rfl, rfl⟩) ?_
    (try go_simp)
    refine wpAny_take (i := 8) (v := undef) rfl (by kernel_rfl) (by kernel_rfl) (by kernel_rfl) (fun _ _ _ h => h) (Or.inr ⟨by rfl, rfl⟩) ?_
    (try go_simp)
    refine wpAny_take (i := 9) (v := undef) rfl (by kernel_rfl) (by kernel_rfl) (by kernel_rfl) (fun _ _ _ h => h) (Or.inr ⟨by rfl, rfl⟩) ?_
    (try go_simp)
    refine wpAny_take (i := 10) (v := undef) rfl (by kernel_rfl) (by kernel_rfl) (by kernel_rfl) (fun _ _ _ h => h) (Or.inr ⟨by rfl, rfl⟩) ?_
    (try go_simp)
    refine wpAny_take (i := 11) (v := undef) rfl (by kernel_rfl) (by kernel_rfl) (by kernel_rfl) (fun _ _ _ h => h) (Or.inr ⟨by rfl, rfl⟩) ?_
    (try go_simp)
    refine wpAny_take (i := 12) (v := undef) rfl (by kernel_rfl) (by kernel_rfl) (by kernel_rfl) (fun _ _ _ h => h) (Or.inr ⟨by rfl, rfl⟩) ?_
    (try go_simp)
    refine wpAny_take (i := 13) (v := undef) rfl (by kernel_rfl) (by kernel_rfl) (by kernel_rfl) (fun _ _ _ h => h) (Or.inr ⟨by rfl, rfl⟩) ?_
    (try go_simp)
    refine wpAny_take (i := 14) (v := undef) rfl (by kernel_rfl) (by kernel_rfl) (by kernel_rfl) (fun _ _ _ h => h) (Or.inr ⟨by rfl, rfl⟩) ?_
    (try go_simp)
    refine wpAny_take (i := 15) (v := undef) rfl (by kernel_rfl) (by kernel_rfl) (by kernel_rfl) (fun _ _ _ h => h) (Or.inr ⟨by rfl, rfl⟩) ?_
    (try go_simp)
    refine wpAny_take (i := 16) (v := undef) rfl (by kernel_rfl) (by kernel_rfl) (by kernel_rfl) (fun _ _ _ h => h) (Or.inr ⟨by rfl, rfl⟩) ?_
    (try go_simp)
    refine wpAny_take (i := 17) (v := undef) rfl (by kernel_rfl) (by kernel_rfl) (by kernel_rfl) (fun _ _ _ h => h) (Or.inr ⟨by rfl, rfl⟩) ?_
    (try go_simp)
    refine wpAny_take (i := 18) (v := undef) rfl (by kernel_rfl) (by kernel_rfl) (by kernel_rfl) (fun _ _ _ h => h) (Or.inr ⟨by rfl, rfl⟩) ?_
    (try go_simp)
    refine wpAny_take (i := 19) (v := undef) rfl (by kernel_rfl) (by kernel_rfl) (by kernel_rfl) (fun _ _ _ h => h) (Or.inr ⟨by rfl, rfl⟩) ?_
    (try go_simp)
    refine wpAny_take (i := 20) (v := undef) rfl (by kernel_rfl) (by kernel_rfl) (by kernel_rfl) (fun _ _ _ h => h) (Or.inr ⟨by rfl, rfl⟩) ?_
    (try go_simp)
    refine wpAny_take (i := 21) (v := undef) rfl (by kernel_rfl) (by kernel_rfl) (by kernel_rfl) (fun _ _ _ h => h) (Or.inr ⟨by rfl, rfl⟩) ?_
    (try go_simp)
    refine wpAny_take (i := 22) (v := ?vf4) rfl (by kernel_rfl) (by kernel_rfl) (by kernel_rfl) (fun _ _ _ h => h) (Or.inl ⟨by rfl, ?yf4⟩) ?rf4
    case yf4 => (intro w; go_simp; try with_reducible rfl)
    (try go_simp)
    refine wpAny_take (i := 23) (v := ?vf5) rfl (by kernel_rfl) (by kernel_rfl) (by kernel_rfl) (fun _ _ _ h => h) (Or.inl ⟨by rfl, ?yf5⟩) ?rf5
    case yf5 => (intro w; go_simp; try with_reducible rfl)
    (try go_simp)
    refine wpAny_done (by kernel_rfl) ?_ _
    go_wp2_with fail
    go_ret
    exact ⟨rfl, G⟩

set_option maxRecDepth 100000 in
theorem lifted (os : Os) (started : os.Started) (H : Type) (enc : TypeId × Value → H) :
    ReturnsInHanded {} Try.checked os 4 .any (Rows.fnSortedStableFuncSpec.pre6 enc Try.prog Try.f4 Rows.fnSortedStableFuncRow.domain false) (Rows.fnSortedStableFuncSpec.post enc Try.prog Try.f4 false true false false) := by
  refine returnsInHanded_of_change_sized (C := Try.checked) own started (by kernel_rfl) Try.func4
    (ChangeSpec.witness6 (enc := enc) (C := Try.checked) false ⟨#[], #[.slice none 0 0, .agg #[.int .i64 0, .slice none 0 0]], []⟩ 8 (by kernel_rfl) (by kernel_rfl) (by kernel_rfl) (by kernel_rfl)) ?_
  intro W base args ds gs before hval0 hW _ hsz0 _
  have hsz : (DataW.weightsEach Try.prog (Try.f4.params.toList ++ Rows.fnSortedStableFuncSpec.plain.varTypes Try.prog) (ds ++ gs)).all (· ≤ reachBytes) = true := hsz0
  have hval : ∀ (j : Nat) t v, Try.f4.params[j]? = some t → args[j]? = some v → Value.okWide Try.prog W .any base t v := hval0
  have hW' := hW
  obtain ⟨p, q, hA0, hV, rfl, hfz, hnd⟩ := hW
  have hA : DataW.TrodAll enc Try.prog W 0 (fun _ => true) true Try.f4.params.toList args.toList ds p := hA0
  rw [Try.params4] at hA hval hsz
  obtain ⟨v0, vs0, d0, ds0, p0, q0, hargs, rfl, rfl, h0, rr0⟩ := trodAll_cons hA
  obtain ⟨v1, vs1, d1, ds1, p1, q1, rfl, rfl, rfl, h1, rr1⟩ := trodAll_cons rr0
  obtain ⟨rfl, rfl, rfl⟩ := trodAll_nil rr1
  obtain rfl : args = #[v0, v1] := by cases args; simp_all
  obtain ⟨rfl, rfl⟩ := trodVars_none hV
  have t0 := h0
  have lt0 : ∀ x ∈ p0, x.block < W.heap.size := by obtain ⟨m, hm⟩ := t0; exact DataW.trod_lt m _ _ _ hm
  obtain ⟨a0, l0, c0, z0, rfl, k0, m0, r0, f0, u0, s0⟩ := openPairs (hval 0 22 v0 rfl rfl) h0
  have b0 := s0 (sized_at hsz 0 rfl rfl)
  have t1 := h1
  have lt1 : ∀ x ∈ p1, x.block < W.heap.size := by obtain ⟨m, hm⟩ := t1; exact DataW.trod_lt m _ _ _ hm
  obtain ⟨s1, a1, l1, c1, z1, rfl, g1, k1, m1, r1, f1, u1, sz1⟩ := openOrder (hval 1 25 v1 rfl rfl) h1
  have b1 := sz1 (sized_at hsz 1 rfl rfl)
  refine (walk a0 l0 c0 z0 s1 a1 l1 c1 z1 W k0 m0 r0 f0 g1 k1 m1 r1 f1 b0 b1).mono fun e W' ⟨he, bel⟩ => ?_
  subst he
  exact ⟨_, rfl, _, _, _, [], _, [], hW', trodAll_mk1 (shut_bool Try.underlying4 _), (trodAll_cons_mk (Below.trod laidOut (by kernel_rfl) (of_decide_eq_true (by kernel_rfl)) t0 bel lt0) (trodAll_cons_mk (Below.trod laidOut (by kernel_rfl) (of_decide_eq_true (by kernel_rfl)) t1 bel lt1) trodAll_mk0)), rfl, bel.frame _, fun h => by cases h⟩

theorem over : Rows.fnSortedStableFuncRow.holds Try.pinned (OpenSpec.ofChange Rows.fnSortedStableFuncSpec) :=
  OpenClaim.holds_of_wide 4 Try.f4 rfl rfl rfl rfl rfl rfl rfl ⟨rfl, rfl, rfl, rfl, rfl⟩ rfl rfl rfl rfl rfl (by kernel_rfl) Try.func4 (by kernel_rfl)
    (of_decide_eq_true (by kernel_rfl)) (by unfold Func.isWrapper; first | (rw [if_pos (by decide +kernel)]; kernel_rfl) | (rw [if_neg (by decide +kernel)]; exact ⟨rfl, rfl⟩))
    (fun os started H enc _ => lifted os started H enc)

/-- the given statement -/
theorem proved : Rows.FnSortedStableFuncSaid := over
#print axioms proved
end Go.Proofs.Ytiocgmeonfanmaa.fnSortedStableFunc
