/-
  laws.ranked: the order of indices by rank.
-/
import Derived.Test.YtiocgmeonfanmaaRank
namespace Go.Proofs.Ytiocgmeonfanmaa
open Go.RowKit
set_option linter.unusedVariables false
set_option linter.unusedSimpArgs false

theorem infoIntR : (Try.prog.info? 3).map (fun i => (i.zero, i.size, i.bytes)) = some (some (.int .i64 0), 1, 8) := by kernel_rfl
theorem cell_one_at (w : World) (n : Nat) (hn : w.heap.size = n) (a : Value) (t : TypeId) : ∀ j u, [a][j]? = some u → (w.alloc (.cells #[a] t)).cell? ((⟨n, 0, none⟩ : Addr).add j) = some u := by
  subst hn; exact cell_one_new w a t
/-- what the rounds of the table keep: the two boxes and the row -/
def RkInv (w : World) (n : Nat) (pre : List Int) (W : World) : Prop :=
  ∃ v, Boxed2 W (w.heap.size + 1) 25 (.int .i64 n) v ∧ Boxed2 W w.heap.size 25 (.int .i64 0) (.slice none 0 0) ∧ W.ownsRow w.heap.size 3 1 v pre.length (ints pre) ∧ Below w.heap.size w W
set_option maxRecDepth 100000 in
set_option maxHeartbeats 2000000 in
theorem lawsRanked (A : Option Addr) (n c B : Nat) (zs : List Int) (w : World) (hI : Rd w B 1 A n (ints zs)) (hB0 : B ≤ w.heap.size) (hn : n ≤ 4096) :
    Calls Try.prog 22 #[.slice A n c] w fun e w' => ∃ A' m c', e = .returned (.agg #[.int .i64 n, .slice A' m c']) ∧ w'.ownsRow w.heap.size 3 1 (.slice A' m c') m (ints (rkPre zs n)) ∧ m = n * n ∧ Below w.heap.size w w' := by
  have hl : zs.length = n := by have := hI.1; simpa using this
  subst hl
  replace hI := hI.more hB0
  obtain ⟨i0, hi, hz0, hz1, hz2⟩ := info_parts infoIntR
  have hq : zs.length * zs.length ≤ 4096 * 4096 := Nat.mul_le_mul hn hn
  go_enter Try.func22, Try.ntmps22
  go_wp2_with fail
  obtain ⟨w1, hw1⟩ : ∃ w1, w1 = (w.alloc (.cells #[.int .i64 0, .slice none 0 0] 25)).alloc (.cells #[.int .i64 zs.length, .slice none 0 0] 25) := ⟨_, rfl⟩
  have I0 : Hid (RkInv w zs.length (rkPre zs 0) w1) := hide (by
    refine ⟨.slice none 0 0, ?_, ?_, World.ownsRow_nil _ _ _ _, ?_⟩
    · rw [hw1]; have := Boxed2.new (w.alloc (.cells #[.int .i64 0, .slice none 0 0] 25)) 25 (.int .i64 zs.length) (.slice none 0 0); rwa [World.size_alloc] at this
    · rw [hw1]; exact (Boxed2.new w 25 (.int .i64 0) (.slice none 0 0)).kept (World.grownBy_alloc _ _ none) (by simp)
    · rw [hw1]; exact ((Below.refl _ w).alloc (Nat.le_refl _) _).alloc (by simp) _)
  rw [← hw1]
  clear hw1
  go_loopw [14] (fun vi wr => ∃ i : Nat, vi = .int .i64 i ∧ i ≤ zs.length ∧ Hid (RkInv w zs.length (rkPre zs i) wr)) (fun vi _ => zs.length - (intOf vi).toNat)
  case atStart => exact ⟨0, rfl, Nat.zero_le _, I0⟩
  case round =>
    clear I0
    obtain ⟨i, rfl, hi2, HI⟩ := hrel
    by_cases hlt : i < zs.length
    · have hltz : (i : Int) < (zs.length : Int) := by omega
      obtain ⟨wR, hwR⟩ : ∃ w0 : World, w0 = wr := ⟨_, rfl⟩
      rw [← hwR] at HI ⊢
      clear hwR
      obtain ⟨v, bx, br, ho, hb⟩ := HI.out
      obtain ⟨ba, offa, a, hAa, hba, hxa, hca⟩ := (hI.below hb).intx hlt
      subst hAa
      have HPL : Hid ((rkPre zs i).length = i * zs.length) := hide (rkPre_length zs hi2)
      have hil : i * zs.length + zs.length ≤ 16777216 := by
        have h1 : (i + 1) * zs.length ≤ 4096 * 4096 := Nat.mul_le_mul (by omega) hn
        rw [Nat.add_mul, Nat.one_mul] at h1; omega
      have HI2 : Hid (RkInv w zs.length (rkPre zs i ++ (zs.take 0).map (rkI a)) wR) := hide (by simpa using HI.out)
      clear bx br ho v
      go_wp2_with fail
      go_loopw [20] (fun vj wr => ∃ j : Nat, vj = .int .i64 j ∧ j ≤ zs.length ∧ Hid (RkInv w zs.length (rkPre zs i ++ (zs.take j).map (rkI a)) wr)) (fun vj _ => zs.length - (intOf vj).toNat)
      case atStart => exact ⟨0, rfl, Nat.zero_le _, HI2⟩
      case round =>
        clear HI2
        obtain ⟨j, rfl, hj2, HJ⟩ := hrel
        by_cases hlt2 : j < zs.length
        · have hltz2 : (j : Int) < (zs.length : Int) := by omega
          obtain ⟨v, bx, br, ho, hb⟩ := HJ.out
          obtain ⟨bb, offb, b, hAb, hbb, hxb, hcb⟩ := (hI.below hb).intx hlt2
          injection hAb with hAb
          injection hAb with hAb1 hAb2
          subst hAb1 hAb2
          obtain ⟨pre, hpre⟩ : ∃ pre, pre = rkPre zs i ++ (zs.take j).map (rkI a) := ⟨_, rfl⟩
          have hpl : pre.length ≤ i * zs.length + j := by rw [hpre, List.length_append, HPL.out, List.length_map, List.length_take]; omega
          rw [← hpre] at ho
          have HNX : Hid (rkPre zs i ++ (zs.take (j + 1)).map (rkI a) = pre ++ [rkI a b]) := hide (by rw [hpre, take_snoc' hxb.out]; simp)
          obtain ⟨Av, cv, rfl⟩ := own_slice ho
          have cx1 := bx.cell1
          have hsz := hb.size
          have hblt := bx.lt
          have hne1 : w.heap.size + 1 ≠ wr.heap.size := by omega
          obtain ⟨r, hr⟩ : ∃ r, r = rkI a b := ⟨_, rfl⟩
          rw [← hr] at HNX
          have step : ∀ (v' : Value) (w2 : World), w2.ownsRow w.heap.size 3 1 v' (pre.length + 1) (ints pre ++ [.int .i64 r]) → (wr.alloc (.cells #[.int .i64 r] 3)).grownBy w2 (Value.slice Av pre.length cv).ownBlock → Boxed2 w2 (w.heap.size + 1) 25 (.int .i64 zs.length) (.slice Av pre.length cv) ∧ Hid (RkInv w zs.length (rkPre zs i ++ (zs.take (j + 1)).map (rkI a)) (w2.setCell ⟨w.heap.size + 1, 1, none⟩ v')) := fun v' w2 h1 h2 => by
            have hnr := bx.not_row (by decide) ho
            have hnr2 := br.not_row (by decide) ho
            have b2 := (bx.kept (World.grownBy_alloc wr _ none) (by simp)).kept h2 hnr
            have b3 := (br.kept (World.grownBy_alloc wr _ none) (by simp)).kept h2 hnr2
            refine ⟨b2, hide ?_⟩
            refine ⟨v', b2.set1 v', b3.kept (grownBy_set1 w2 _ 1 v') (by simp), ?_, ?_⟩
            · rw [HNX.out, List.length_append, List.length_singleton, ints, List.map_append]
              exact h1.kept (grownBy_set1 w2 _ 1 v') (.inr (fun e => b2.not_row (by decide) h1 e.symm))
            · exact (below_append hb hsz (Nat.le_refl _) ho h2).grown (grownBy_set1 w2 _ 1 v') (by have := (below_append hb hsz (Nat.le_refl _) ho h2).size; exact this) (fun k e => by cases e; omega)
          have STEP := hide step
          clear step hpre
          by_cases h1 : a < b
          · obtain rfl : r = -1 := by rw [hr, rkI, if_pos h1]
            have h2 : ¬ b < a := by omega
            clear hr
            go_wp2_with (at_builtin; go_must (refine wpList_append_own _ rfl _ _ 23 rfl w.heap.size 3 i0 (.int .i64 0) 1 8 Try.underlying23 hi hz0 hz1 hz2 rfl (by decide) _ _ _ rfl (ho.alloc _) ⟨wr.heap.size, 0, none⟩ 1 1 [.int .i64 (-1)] rfl rfl (cell_one_at _ _ (by simp) _ _) (by simp [Value.oneCell']) (by unfold maxLen; omega) (by omega) (by simp; omega) ?_); intro v' w2 hown' hgrow _; obtain ⟨g', cap', rfl⟩ := ownsRow_succ hown'; obtain ⟨b2, HN⟩ := STEP.out _ w2 hown' hgrow; have d1 := b2.cell1; have d2 := b2.frozen (j := 1))
            go_roundw
            case rel => exact ⟨j + 1, by go_num, by omega, HN⟩
            case measure => simp [intOf]; omega
          · by_cases h2 : b < a
            · obtain rfl : r = 1 := by rw [hr, rkI, if_neg h1, if_pos h2]
              clear hr
              go_wp2_with (at_builtin; go_must (refine wpList_append_own _ rfl _ _ 23 rfl w.heap.size 3 i0 (.int .i64 0) 1 8 Try.underlying23 hi hz0 hz1 hz2 rfl (by decide) _ _ _ rfl (ho.alloc _) ⟨wr.heap.size, 0, none⟩ 1 1 [.int .i64 1] rfl rfl (cell_one_at _ _ (by simp) _ _) (by simp [Value.oneCell']) (by unfold maxLen; omega) (by omega) (by simp; omega) ?_); intro v' w2 hown' hgrow _; obtain ⟨g', cap', rfl⟩ := ownsRow_succ hown'; obtain ⟨b2, HN⟩ := STEP.out _ w2 hown' hgrow; have d1 := b2.cell1; have d2 := b2.frozen (j := 1))
              go_roundw
              case rel => exact ⟨j + 1, by go_num, by omega, HN⟩
              case measure => simp [intOf]; omega
            · obtain rfl : r = 0 := by rw [hr, rkI, if_neg h1, if_neg h2]
              clear hr
              go_wp2_with (at_builtin; go_must (refine wpList_append_own _ rfl _ _ 23 rfl w.heap.size 3 i0 (.int .i64 0) 1 8 Try.underlying23 hi hz0 hz1 hz2 rfl (by decide) _ _ _ rfl (ho.alloc _) ⟨wr.heap.size, 0, none⟩ 1 1 [.int .i64 0] rfl rfl (cell_one_at _ _ (by simp) _ _) (by simp [Value.oneCell']) (by unfold maxLen; omega) (by omega) (by simp; omega) ?_); intro v' w2 hown' hgrow _; obtain ⟨g', cap', rfl⟩ := ownsRow_succ hown'; obtain ⟨b2, HN⟩ := STEP.out _ w2 hown' hgrow; have d1 := b2.cell1; have d2 := b2.frozen (j := 1))
              go_roundw
              case rel => exact ⟨j + 1, by go_num, by omega, HN⟩
              case measure => simp [intOf]; omega
        · have hltz2 : ¬ (j : Int) < (zs.length : Int) := by omega
          have HN : Hid (RkInv w zs.length (rkPre zs (i + 1)) wr) := hide (by rw [rkPre_succ hxa.out]; have := HJ.out; rwa [List.take_of_length_le (by omega)] at this)
          go_wp2_with fail
          go_roundw
          case rel => exact ⟨i + 1, by go_num, by omega, HN⟩
          case measure => simp [intOf]; omega
    · have hltz : ¬ (i : Int) < (zs.length : Int) := by omega
      obtain rfl : i = zs.length := by omega
      obtain ⟨v, bx, br, ho, hb⟩ := HI.out
      have hm : (rkPre zs zs.length).length = zs.length * zs.length := rkPre_length zs (Nat.le_refl _)
      obtain ⟨m, hmm⟩ : ∃ m, m = (rkPre zs zs.length).length := ⟨_, rfl⟩
      rw [← hmm] at ho
      obtain ⟨Av, cv, rfl⟩ := own_slice ho
      have e0 := bx.cell0
      have e1 := bx.cell1
      have z0 := br.cell0
      have z1 := br.cell1
      have f0 := br.frozen (j := 0)
      have f1 := br.frozen (j := 1)
      have r1 := br.set0 (.int .i64 zs.length)
      have r2 := r1.set1 (.slice Av m cv)
      have HR := hide r2
      have gs : wr.grownBy ((wr.setCell ⟨w.heap.size, 0, none⟩ (.int .i64 zs.length)).setCell ⟨w.heap.size, 1, none⟩ (.slice Av m cv)) (some w.heap.size) := by
        have g1 := grownBy_set1 wr w.heap.size 0 (.int .i64 zs.length)
        have g2 := grownBy_set1 (wr.setCell ⟨w.heap.size, 0, none⟩ (.int .i64 zs.length)) w.heap.size 1 (.slice Av m cv)
        exact ⟨g2.os.trans g1.os, g2.tape.trans g1.tape, g2.output.trans g1.output, Nat.le_trans g1.size g2.size, fun k hk hne => (g2.block k (Nat.lt_of_lt_of_le hk g1.size) hne).trans (g1.block k hk hne)⟩
      have HOW := hide (ho.kept gs (.inr (fun e => br.not_row (by decide) ho e.symm)))
      have HBE := hide (hb.grown gs hb.size (fun k e => by cases e; exact Nat.le_refl _))
      have HM : Hid (m = zs.length * zs.length) := hide (hmm.trans hm)
      clear r1 r2 gs ho hm hmm hb bx br
      go_wp2_with fail
      generalize World.setCell _ _ _ = wF at HR HOW HBE ⊢
      have y0 := HR.out.cell0
      have y1 := HR.out.cell1
      refine bodyPost_ret (v := .agg #[.int .i64 zs.length, .slice Av m cv]) ?_ rfl ?_
      · simp [results, Try.results22, go_sem, y0, y1]
      · exact ⟨Av, m, cv, rfl, HOW.out, HM.out, HBE.out⟩
end Go.Proofs.Ytiocgmeonfanmaa
