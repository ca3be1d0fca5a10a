/-
  slices.pdqsortCmpFunc at items, whole, at any order: it computes its plain twin.
-/
import Derived.Deep.DeepCutAuto
import Derived.Test.YtiocgmeonfanmaaStI
import Derived.Test.YtiocgmeonfanmaaStPd
import Derived.Test.YtiocgmeonfanmaaStPe
import Derived.Test.YtiocgmeonfanmaaStPf
import Derived.Test.YtiocgmeonfanmaaStPg
import Derived.Test.YtiocgmeonfanmaaStPh
import Derived.Test.YtiocgmeonfanmaaStPi
import Derived.Test.YtiocgmeonfanmaaPdP
import Derived.Sort.Walk13
import Derived.Deep.LoopGhost
namespace Go.Proofs.Ytiocgmeonfanmaa
open Go.RowKit Go.Sort Go.Shelf
set_option linter.unusedVariables false
set_option linter.unusedSimpArgs false
variable {α : Type} [Inhabited α]
theorem hcode_eq (h : Hint) : hcode h = hintCode h := by cases h <;> rfl

set_option maxHeartbeats 25600000 in
set_option maxRecDepth 1000000 in
theorem pdqI (it : α → Int × Int) (s : Int) (A : Option Addr) (l c B : Nat) (zs : List Int) (blk off cap : Nat) (d0 : Array α) (w0 : World) (R : RowK (encI it) 2 w0 blk off d0) (C : CmpB s A l c B zs w0 blk) (lt : α → α → Bool) (hlt : lt = ltOf (cfI s zs it)) :
    ∀ (N a b limit : Nat) (d : Array α) (w : World), b - a < N → d.size = d0.size → SWK (encI it) 2 w0 blk off d w → a ≤ b → b ≤ d.size → d.size < 2305843009213693952 → limit < 4611686018427387904 →
    Calls Try.prog 40 #[.slice (some ⟨blk, off, none⟩) d.size cap, .int .i64 a, .int .i64 b, .int .i64 limit, .func (.func 26) #[.agg #[.int .i64 s, .slice A l c]] #[]] w fun e w' => e = .returned (.tuple #[]) ∧ SWK (encI it) 2 w0 blk off (pdq lt d a b limit true true) w' := by
  have mixed := mixedI
  have eg := egI
  have HLT := hide hlt
  clear hlt
  intro N
  induction N with
  | zero => intro _ _ _ _ _ h; exact absurd h (Nat.not_lt_zero _)
  | succ N ih =>
    intro a b limit d w hN hs S hab hb hsz hlimit
    have IH := hide ih
    clear ih
    have HS := hide hs
    clear hs
    have S0 : Hid (SWK (encI it) 2 w0 blk off d w) := S
    clear S
    go_enter Try.func40, Try.ntmps40
    go_wp2
    go_loopg [1, 2, 3, 10, 11] (b - a) (fun kx s1 s2 s3 s8 s9 wr => ∃ (a' b' lim : Nat) (wb wp : Bool) (dk : Array α), s1 = .int .i64 a' ∧ s2 = .int .i64 b' ∧ s3 = .int .i64 lim ∧ s8 = .bool wb ∧ s9 = .bool wp ∧
      a' ≤ b' ∧ b' ≤ d.size ∧ b' - a' ≤ kx ∧ kx ≤ b - a ∧ lim ≤ limit ∧ Hid (dk.size = d.size) ∧ Hid (SWK (encI it) 2 w0 blk off dk wr) ∧ Hid (pdq lt dk a' b' lim wb wp = pdq lt d a b limit true true))
    case atStart => exact ⟨a, b, limit, true, true, d, rfl, rfl, rfl, rfl, rfl, hab, hb, Nat.le_refl _, Nat.le_refl _, Nat.le_refl _, hide rfl, S0, hide rfl⟩
    case round =>
      clear S0
      obtain ⟨a', b', lim, wb, wp, dk, rfl, rfl, rfl, rfl, rfl, hab', hb', hkx, hkN, hlim, HDS, SA, AA⟩ := hrel
      by_cases h12 : b' - a' ≤ 12
      · have h12z : (b' : Int) - (a' : Int) ≤ 12 := by omega
        have hc := hide (show Calls Try.prog 45 #[.slice (some ⟨blk, off, none⟩) d.size cap, .int .i64 a', .int .i64 b', .func (.func 26) #[.agg #[.int .i64 s, .slice A l c]] #[]] wr fun e w' => e = .returned (.tuple #[]) ∧ SWK (encI it) 2 w0 blk off (insertionSort lt dk a' b') w' from by have hds := HDS.out; have h := insertionI it s A l c B zs blk off cap a' b' d0 dk w0 wr R C (hds.trans HS.out) SA.out hab' (by omega) (by omega); rw [hds, ← HLT.out] at h; exact h)
        go_wp2_with fail
        refine hc.out.mono ?_
        rintro _ w1 ⟨rfl, hw1⟩
        have hw1 := hide hw1
        go_wp2
        (try simp only [Exit.inBlock, Exit.then]); refine bodyPost_ret (results_none rfl _ _ _) rfl ?_
        refine ⟨rfl, ?_⟩
        rw [← AA.out, pdq_small h12]
        exact hw1.out
      · have h12z : ¬ ((b' : Int) - (a' : Int) ≤ 12) := by omega
        by_cases hl0 : lim = 0
        · subst hl0
          have hc := hide (show Calls Try.prog 46 #[.slice (some ⟨blk, off, none⟩) d.size cap, .int .i64 a', .int .i64 b', .func (.func 26) #[.agg #[.int .i64 s, .slice A l c]] #[]] wr fun e w' => e = .returned (.tuple #[]) ∧ SWK (encI it) 2 w0 blk off (heapSort lt dk a' b') w' from by have hds := HDS.out; have h := heapI it s A l c B zs blk off cap a' b' d0 dk w0 wr R C (hds.trans HS.out) SA.out hab' (by omega) (by omega); rw [hds, ← HLT.out] at h; exact h)
          go_wp2_with fail
          refine hc.out.mono ?_
          rintro _ w1 ⟨rfl, hw1⟩
          have hw1 := hide hw1
          go_wp2
          (try simp only [Exit.inBlock, Exit.then]); refine bodyPost_ret (results_none rfl _ _ _) rfl ?_
          refine ⟨rfl, ?_⟩
          rw [← AA.out, pdq_heap h12 rfl]
          exact hw1.out
        · have hl0z : ¬ ((lim : Int) = 0) := by omega
          have F := hide (rd_any lt (d := dk) (limit := lim) (wb := wb) (wp := wp) (show a' < b' by omega) (show b' ≤ dk.size by rw [HDS.out]; exact hb'))
          -- 'if !wasBalanced': the ways meet
          go_upto_if 39 with fail
          go_cut [3] from 21 (fun s3 wc => s3 = .int .i64 (rd lt dk a' b' lim wb wp).lim ∧ Hid (SWK (encI it) 2 w0 blk off (rd lt dk a' b' lim wb wp).d1 wc))
          case first =>
            cases wb
            · have hc := hide (show Calls Try.prog 47 #[.slice (some ⟨blk, off, none⟩) d.size cap, .int .i64 a', .int .i64 b', .func (.func 26) #[.agg #[.int .i64 s, .slice A l c]] #[]] wr fun e w' => e = .returned (.tuple #[]) ∧ SWK (encI it) 2 w0 blk off (breakPatterns dk a' b') w' from by have hds := HDS.out; have h := breakI it (.func (.func 26) #[.agg #[.int .i64 s, .slice A l c]] #[]) blk off cap a' b' d0 dk w0 wr R (hds.trans HS.out) SA.out hab' (by omega) (by omega); rw [hds] at h; exact h)
              go_wp2_with (go_at_call 47; refine hc.out.mono ?_; rintro e w1 ⟨rfl, hw1⟩)
              go_meet
              case rel =>
                refine ⟨?_, hide hw1⟩
                show Value.int .i64 ((lim : Int) - 1) = Value.int .i64 ((lim - 1 : Nat) : Int)
                congr 1
                omega
            · go_wp2_with fail
              go_meet
              case rel => exact ⟨rfl, SA⟩
          case rest =>
            obtain ⟨rfl, SA1⟩ := hcut
            clear SA
            have hc17 := hide (show Calls Try.prog 48 #[.slice (some ⟨blk, off, none⟩) d.size cap, .int .i64 a', .int .i64 b', .func (.func 26) #[.agg #[.int .i64 s, .slice A l c]] #[]] wc fun e w' => e = .returned (.tuple #[.int .i64 ((rd lt dk a' b' lim wb wp).c.1 : Nat), .int .i64 (hintCode (rd lt dk a' b' lim wb wp).c.2)]) ∧ SWK (encI it) 2 w0 blk off (rd lt dk a' b' lim wb wp).d1 w' from by
              have hds := HDS.out
              have s1 := F.out.1
              have h := pivotI it s A l c B zs blk off cap a' b' d0 (rd lt dk a' b' lim wb wp).d1 w0 wc R C (s1.trans (hds.trans HS.out)) SA1.out (by omega) (by omega) (by omega)
              rw [← HLT.out, hcode_eq, show (rd lt dk a' b' lim wb wp).d1.size = d.size from s1.trans hds] at h
              exact h)
            go_upto_if 56 with (go_at_call 48; refine hc17.out.mono ?_; rintro e w2 ⟨rfl, SA2⟩; have SA2 := hide SA2)
            -- 'if hint == decreasingHint': the ways meet
            go_cut [13, 14] from 21 (fun s11 s12 wc => s11 = .int .i64 ((rd lt dk a' b' lim wb wp).pivot : Nat) ∧ s12 = .int .i64 (hintCode (rd lt dk a' b' lim wb wp).hint) ∧ Hid (SWK (encI it) 2 w0 blk off (rd lt dk a' b' lim wb wp).d2 wc))
            case first =>
              by_cases hh : (rd lt dk a' b' lim wb wp).c.2 = .decreasing
              · have hcode : hintCode (rd lt dk a' b' lim wb wp).c.2 = 2 := by rw [hh]; rfl
                obtain ⟨e2, epv, eht⟩ := rd_dec hh
                have hc18 := hide (show Calls Try.prog 49 #[.slice (some ⟨blk, off, none⟩) d.size cap, .int .i64 a', .int .i64 b', .func (.func 26) #[.agg #[.int .i64 s, .slice A l c]] #[]] w2 fun e w' => e = .returned (.tuple #[]) ∧ SWK (encI it) 2 w0 blk off (reverseRange (rd lt dk a' b' lim wb wp).d1 a' b') w' from by
                  have hds := HDS.out
                  have s1 := F.out.1
                  have h := reverseI it (.func (.func 26) #[.agg #[.int .i64 s, .slice A l c]] #[]) blk off cap a' b' d0 (rd lt dk a' b' lim wb wp).d1 w0 w2 R (s1.trans (hds.trans HS.out)) SA2.out (by omega) (by omega) (by omega)
                  rw [show (rd lt dk a' b' lim wb wp).d1.size = d.size from s1.trans hds] at h
                  exact h)
                have c1 := F.out.2.1
                go_wp2_with (go_at_call 49; refine hc18.out.mono ?_; rintro e w3 ⟨rfl, hw3⟩)
                go_meet
                case rel =>
                  refine ⟨?_, by rw [eht]; rfl, hide (by rw [e2]; exact hw3)⟩
                  rw [epv]
                  congr 1
                  omega
              · have hcode : ¬ (hintCode (rd lt dk a' b' lim wb wp).c.2 = 2) := fun h => hh (hintCode_two h)
                obtain ⟨e2, epv, eht⟩ := rd_not hh
                go_wp2_with fail
                go_meet
                case rel => exact ⟨by rw [epv], by rw [eht], hide (by rw [e2]; exact SA2.out)⟩
            case rest =>
              obtain ⟨rfl, rfl, SA3⟩ := hcut
              clear SA1 SA2
              -- the test 'wasBalanced && wasPartitioned && hint == increasingHint': the ways through the region meet
              go_upto_region 15 with fail
              go_cut [14, 75] from 21 (fun s12 s68 wx => s12 = .int .i64 (hintCode (rd lt dk a' b' lim wb wp).hint) ∧ s68 = .bool (wb && wp && decide ((rd lt dk a' b' lim wb wp).hint = .increasing)) ∧ wx = wc)
              case first =>
                cases wb <;> cases wp <;> cases hh3 : (rd lt dk a' b' lim _ _).hint <;>
                  (have hcode3 := congrArg hintCode hh3
                   simp only [hintCode] at hcode3
                   go_wp2_with fail
                   go_meet
                   exact ⟨by simp [hh3, hintCode], by simp [hh3, hintCode], rfl⟩)
              case rest =>
                obtain ⟨rfl, rfl, rfl⟩ := hcut
                go_upto_if 75 with fail
                go_cut [] from 21 (fun wx => (rd lt dk a' b' lim wb wp).pi.2 = false ∧ Hid (SWK (encI it) 2 w0 blk off (rd lt dk a' b' lim wb wp).pi.1 wx))
                case first =>
                  cases h68 : (wb && wp && decide ((rd lt dk a' b' lim wb wp).hint = .increasing))
                  · have epi := rd_pi_no h68
                    go_wp2_with fail
                    go_meet
                    case rel => exact ⟨by rw [epi], hide (by rw [epi]; exact SA3.out)⟩
                  · have epi := rd_pi_yes h68
                    have hc19 := hide (show Calls Try.prog 50 #[.slice (some ⟨blk, off, none⟩) d.size cap, .int .i64 a', .int .i64 b', .func (.func 26) #[.agg #[.int .i64 s, .slice A l c]] #[]] wc fun e w' => e = .returned (.bool (rd lt dk a' b' lim wb wp).pi.2) ∧ SWK (encI it) 2 w0 blk off (rd lt dk a' b' lim wb wp).pi.1 w' from by
                      have hds := HDS.out
                      have s2 := F.out.2.2.1
                      have h := partialI it s A l c B zs blk off cap a' b' d0 (rd lt dk a' b' lim wb wp).d2 w0 wc R C (s2.trans (hds.trans HS.out)) SA3.out (by omega) (by omega) (by omega)
                      rw [← HLT.out, ← epi, show (rd lt dk a' b' lim wb wp).d2.size = d.size from s2.trans hds] at h
                      exact h)
                    cases hp2 : (rd lt dk a' b' lim wb wp).pi.2
                    · rw [hp2] at hc19
                      go_wp2_with (go_at_call 50; refine hc19.out.mono ?_; rintro e w4 ⟨rfl, hw4⟩)
                      go_meet
                      exact ⟨hp2, hide hw4⟩
                    · rw [hp2] at hc19
                      go_wp2_with (go_at_call 50; refine hc19.out.mono ?_; rintro e w4 ⟨rfl, hw4⟩)
                      (try simp only [Exit.inBlock, Exit.then]); refine bodyPost_ret (results_none rfl _ _ _) rfl ?_
                      refine ⟨rfl, ?_⟩
                      rw [← AA.out, pdq_done h12 hl0 hp2]
                      exact hw4
                case rest =>
                  obtain ⟨hp2, S5⟩ := hcut
                  clear SA3
                  obtain ⟨pv, hpvE⟩ : ∃ pv : Nat, pv = (rd lt dk a' b' lim wb wp).pivot := ⟨_, rfl⟩
                  obtain ⟨D, hD⟩ : ∃ D : Array α, D = (rd lt dk a' b' lim wb wp).pi.1 := ⟨_, rfl⟩
                  have HE : Hid (pv = (rd lt dk a' b' lim wb wp).pivot ∧ D = (rd lt dk a' b' lim wb wp).pi.1) := ⟨hpvE, hD⟩
                  have hpv := F.out.2.2.2.1
                  have s3 := F.out.2.2.2.2.1
                  rw [← hpvE] at hpv
                  rw [← hD] at s3
                  have S5z : D.size = d.size := s3.trans HDS.out
                  have HP2 := hide hp2
                  rw [← hD] at S5
                  rw [← hpvE]
                  obtain ⟨lm, hlm⟩ : ∃ lm : Nat, lm = (rd lt dk a' b' lim wb wp).lim := ⟨_, rfl⟩
                  have hlm2 : lm ≤ limit := by rw [hlm]; exact Nat.le_trans rd_lim_le hlim
                  rw [← hlm]
                  have HLM := hide hlm
                  clear hlm hpvE hD s3 hp2 F
                  have hpv1 := hpv.1
                  have hpv2 := hpv.2
                  rcases Nat.eq_zero_or_pos a' with ha0 | ha0
                  · have ha0z : decide ((a' : Int) > 0) = false := decide_eq_false (by omega)
                    have h87 : (decide (a' > 0) && !lt D[a' - 1]! D[pv]!) = false := by simp [ha0]
                    have hn0 : ¬ (0 < a') := by omega
                    have hn0d : decide (0 < a') = false := decide_eq_false hn0
                    have hn0z : decide ((0 : Int) < (a' : Int)) = false := decide_eq_false (by omega)
                    clear ha0
                    have H87 := hide h87
                    clear h87
                    go_wp2_with fail
                    go_big_region_o
                    have S6 : Hid (SWK (encI it) 2 w0 blk off D wc.drew) := hide S5.out.drew
                    clear S5
                    generalize wc.drew = w6 at S6 ⊢
                    have h87 := H87.out
                    clear H87
                    have h87E : Hid ((decide (a' > 0) && !lt D[a' - 1]! D[pv]!) = false) := hide h87
                    obtain ⟨mid, ap, d4, hx⟩ : ∃ mid ap d4, partition lt D a' b' pv = (mid, ap, d4) := ⟨(partition lt D a' b' pv).1, (partition lt D a' b' pv).2.1, (partition lt D a' b' pv).2.2, rfl⟩
                    have hpa := partition_any lt D a' b' pv hpv1 hpv2 (by rw [S5z]; exact hb')
                    rw [hx] at hpa
                    obtain ⟨r1, r2, r3⟩ := hpa
                    have hs4 : d4.size = d.size := r3.size.trans S5z
                    have HS4 := hide hs4
                    have hc22 := hide (show Calls Try.prog 52 #[.slice (some ⟨blk, off, none⟩) d.size cap, .int .i64 a', .int .i64 b', .int .i64 pv, .func (.func 26) #[.agg #[.int .i64 s, .slice A l c]] #[]] w6 fun e w' => e = .returned (.tuple #[.int .i64 (mid : Nat), .bool ap]) ∧ SWK (encI it) 2 w0 blk off d4 w' from by
                      obtain ⟨bp, hbp⟩ : ∃ bp, b' = bp + 1 := ⟨b' - 1, by omega⟩
                      have h := partitionI it s A l c B zs blk off cap a' bp pv d0 D w0 w6 R C (S5z.trans HS.out) S6.out hpv1 (by omega) (by omega) (by omega)
                      rw [← HLT.out, ← hbp, S5z, hx, show (bp : Int) + 1 = (b' : Int) by omega] at h
                      exact h)
                    have X := hide hx
                    clear hx r3 hs4
                    go_upto_if 125 with (go_at_call 52; refine hc22.out.mono ?_; rintro e w7 ⟨rfl, SA7⟩; have SA7 := hide SA7)
                    by_cases h4 : mid - a' < b' - mid
                    · have h4z : (mid : Int) - (a' : Int) < (b' : Int) - (mid : Int) := by omega
                      have hih := hide (show Calls Try.prog 40 #[.slice (some ⟨blk, off, none⟩) d.size cap, .int .i64 a', .int .i64 mid, .int .i64 lm, .func (.func 26) #[.agg #[.int .i64 s, .slice A l c]] #[]] w7 fun e w' => e = .returned (.tuple #[]) ∧ SWK (encI it) 2 w0 blk off (pdq lt d4 a' mid lm true true) w' from by
                        have hs4 := HS4.out
                        have h := IH.out a' mid lm d4 w7 (by omega) (hs4.trans HS.out) SA7.out (by omega) (by omega) (by omega) (by omega)
                        rw [hs4] at h
                        exact h)
                      have HPA := hide (pdq_pa lt _ a' mid lm true true d4 (Nat.lt_succ_self _) (by omega) (by rw [HS4.out]; omega)).size
                      go_wp2_with (go_at_call 40; refine hih.out.mono ?_; rintro e w8 ⟨rfl, hw8⟩; have hw8 := hide hw8)
                      go_roundg (b' - (mid + 1))
                      case measure => omega
                      case rel =>
                        refine ⟨mid + 1, b', lm, decide (mid - a' ≥ (b' - a') / 8), ap, pdq lt d4 a' mid lm true true, by first | rfl | simp, rfl, rfl, ?_, rfl, by omega, by omega, Nat.le_refl _, by omega, hlm2, hide (HPA.out.trans HS4.out), hw8, ?_⟩
                        · exact congrArg Value.bool (eighth (by omega) (by omega))
                        · have hp2 := HP2.out
                          have h87 := h87E.out
                          have hx := X.out
                          obtain ⟨e1, e2⟩ := HE.out
                          rw [e1, e2] at h87 hx
                          exact hide (by rw [← AA.out, pdq_left h12 hl0 hp2 h87 (by rw [hx]; exact ⟨r1, r2⟩) (by rw [hx]; exact h4), hx, HLM.out])
                    · have h4z : ¬ ((mid : Int) - (a' : Int) < (b' : Int) - (mid : Int)) := by omega
                      have hih := hide (show Calls Try.prog 40 #[.slice (some ⟨blk, off, none⟩) d.size cap, .int .i64 ((mid : Int) + 1), .int .i64 b', .int .i64 lm, .func (.func 26) #[.agg #[.int .i64 s, .slice A l c]] #[]] w7 fun e w' => e = .returned (.tuple #[]) ∧ SWK (encI it) 2 w0 blk off (pdq lt d4 (mid + 1) b' lm true true) w' from by
                        have hs4 := HS4.out
                        have h := IH.out (mid + 1) b' lm d4 w7 (by omega) (hs4.trans HS.out) SA7.out (by omega) (by omega) (by omega) (by omega)
                        rw [show ((mid + 1 : Nat) : Int) = (mid : Int) + 1 by omega, hs4] at h
                        exact h)
                      have HPA := hide (pdq_pa lt _ (mid + 1) b' lm true true d4 (Nat.lt_succ_self _) (by omega) (by rw [HS4.out]; omega)).size
                      go_wp2_with (go_at_call 40; refine hih.out.mono ?_; rintro e w8 ⟨rfl, hw8⟩; have hw8 := hide hw8)
                      go_roundg (mid - a')
                      case measure => omega
                      case rel =>
                        refine ⟨a', mid, lm, decide (b' - mid ≥ (b' - a') / 8), ap, pdq lt d4 (mid + 1) b' lm true true, rfl, rfl, rfl, ?_, rfl, by omega, by omega, Nat.le_refl _, by omega, hlm2, hide (HPA.out.trans HS4.out), hw8, ?_⟩
                        · exact congrArg Value.bool (eighth (by omega) (by omega))
                        · have hp2 := HP2.out
                          have h87 := h87E.out
                          have hx := X.out
                          obtain ⟨e1, e2⟩ := HE.out
                          rw [e1, e2] at h87 hx
                          exact hide (by rw [← AA.out, pdq_right h12 hl0 hp2 h87 (by rw [hx]; exact ⟨r1, r2⟩) (by rw [hx]; exact h4), hx, HLM.out])
                  · have ha0z : (a' : Int) > 0 := by omega
                    obtain ⟨ap, hap⟩ : ∃ q, q + 1 = a' := ⟨a' - 1, by omega⟩
                    have zap : (a' : Int) = (ap : Int) + 1 := by omega
                    have ha0d' : decide ((ap : Int) + 1 > 0) = true := decide_eq_true (by omega)
                    cases hlv : ltOf (cfI s zs it) D[a' - 1]! D[pv]! with
                    | true =>
                      have eqi : ((ap : Int)).toNat = a' - 1 := by omega
                      have pqi : (0 : Int) ≤ (ap : Int) := by omega
                      have bqi : (ap : Int) < (d.size : Int) := by omega
                      have rqi : IntKind.i64.wrap ((ap : Int)) = (ap : Int) := by rw [IntKind.wrap_i64]; omega
                      have eqj : ((pv : Int)).toNat = pv := by omega
                      have pqj : (0 : Int) ≤ (pv : Int) := by omega
                      have bqj : (pv : Int) < (d.size : Int) := by omega
                      have rqj : IntKind.i64.wrap ((pv : Int)) = (pv : Int) := by rw [IntKind.wrap_i64]; omega
                      obtain ⟨xq, hxq⟩ : ∃ x, x = D[a' - 1]! := ⟨_, rfl⟩
                      obtain ⟨yq, hyq⟩ : ∃ x, x = D[pv]! := ⟨_, rfl⟩
                      have lqa0 : ∀ n os, (grow (wc.drewN n) os).cell? ⟨blk, off + (a' - 1) * 2, none⟩ = some (.int .i64 (it xq).1) := fun n os => by rw [hxq]; exact (SWI.cell0 (S5.out.grown n os) R (S5z.trans HS.out) (i := a' - 1) (by have := S5z; omega)).1
                      have lqa1 : ∀ n os, (grow (wc.drewN n) os).cell? ⟨blk, off + (a' - 1) * 2 + 1, none⟩ = some (.int .i64 (it xq).2) := fun n os => by rw [hxq]; exact (SWI.cell1 (S5.out.grown n os) R (S5z.trans HS.out) (i := a' - 1) (by have := S5z; omega)).1
                      have lqb0 : ∀ n os, (grow (wc.drewN n) os).cell? ⟨blk, off + pv * 2, none⟩ = some (.int .i64 (it yq).1) := fun n os => by rw [hyq]; exact (SWI.cell0 (S5.out.grown n os) R (S5z.trans HS.out) (i := pv) (by have := S5z; omega)).1
                      have lqb1 : ∀ n os, (grow (wc.drewN n) os).cell? ⟨blk, off + pv * 2 + 1, none⟩ = some (.int .i64 (it yq).2) := fun n os => by rw [hyq]; exact (SWI.cell1 (S5.out.grown n os) R (S5z.trans HS.out) (i := pv) (by have := S5z; omega)).1
                      have hcq := SWI.cmp S5.out R C xq yq
                      have hdq : decide (cfI s zs it xq yq < 0) = true := by rw [hxq, hyq]; exact hlv
                      have hvq : cfI s zs it xq yq < 0 := of_decide_eq_true hdq
                      have SG : Hid (∀ n os, SWK (encI it) 2 w0 blk off D (grow (wc.drewN n) os)) := hide fun n os => S5.out.grown n os
                      obtain ⟨cvq, hcvq⟩ : ∃ z, z = cfI s zs it xq yq := ⟨_, rfl⟩
                      rw [← hcvq] at hcq hdq hvq
                      clear hxq hyq hcvq
                      go_wp2_with fail
                      go_quiet_grown (first | (go_at_call 26; refine Calls.grown_of (hcq _ _)))
                      have S2 : Hid (SWK (encI it) 2 w0 blk off D (grow (wc.drewN nq) osq)) := hide (SG.out nq osq)
                      clear lqa0 lqa1 lqb0 lqb1 hcq SG
                      generalize grow (wc.drewN nq) osq = w2 at S2 ⊢
                      clear nq osq
                      have S6 := hide S2.out
                      clear S2 S5
                      generalize w2 = w6 at S6 ⊢
                      simp only [← zap]
                      clear zap hap ha0d'
                      have h87 : (decide (a' > 0) && !lt D[a' - 1]! D[pv]!) = false := by rw [HLT.out, hlv]; simp
                      have h87E : Hid ((decide (a' > 0) && !lt D[a' - 1]! D[pv]!) = false) := hide h87
                      obtain ⟨mid, ap, d4, hx⟩ : ∃ mid ap d4, partition lt D a' b' pv = (mid, ap, d4) := ⟨(partition lt D a' b' pv).1, (partition lt D a' b' pv).2.1, (partition lt D a' b' pv).2.2, rfl⟩
                      have hpa := partition_any lt D a' b' pv hpv1 hpv2 (by rw [S5z]; exact hb')
                      rw [hx] at hpa
                      obtain ⟨r1, r2, r3⟩ := hpa
                      have hs4 : d4.size = d.size := r3.size.trans S5z
                      have HS4 := hide hs4
                      have hc22 := hide (show Calls Try.prog 52 #[.slice (some ⟨blk, off, none⟩) d.size cap, .int .i64 a', .int .i64 b', .int .i64 pv, .func (.func 26) #[.agg #[.int .i64 s, .slice A l c]] #[]] w6 fun e w' => e = .returned (.tuple #[.int .i64 (mid : Nat), .bool ap]) ∧ SWK (encI it) 2 w0 blk off d4 w' from by
                        obtain ⟨bp, hbp⟩ : ∃ bp, b' = bp + 1 := ⟨b' - 1, by omega⟩
                        have h := partitionI it s A l c B zs blk off cap a' bp pv d0 D w0 w6 R C (S5z.trans HS.out) S6.out hpv1 (by omega) (by omega) (by omega)
                        rw [← HLT.out, ← hbp, S5z, hx, show (bp : Int) + 1 = (b' : Int) by omega] at h
                        exact h)
                      have X := hide hx
                      clear hx r3 hs4
                      go_upto_if 125 with (go_at_call 52; refine hc22.out.mono ?_; rintro e w7 ⟨rfl, SA7⟩; have SA7 := hide SA7)
                      by_cases h4 : mid - a' < b' - mid
                      · have h4z : (mid : Int) - (a' : Int) < (b' : Int) - (mid : Int) := by omega
                        have hih := hide (show Calls Try.prog 40 #[.slice (some ⟨blk, off, none⟩) d.size cap, .int .i64 a', .int .i64 mid, .int .i64 lm, .func (.func 26) #[.agg #[.int .i64 s, .slice A l c]] #[]] w7 fun e w' => e = .returned (.tuple #[]) ∧ SWK (encI it) 2 w0 blk off (pdq lt d4 a' mid lm true true) w' from by
                          have hs4 := HS4.out
                          have h := IH.out a' mid lm d4 w7 (by omega) (hs4.trans HS.out) SA7.out (by omega) (by omega) (by omega) (by omega)
                          rw [hs4] at h
                          exact h)
                        have HPA := hide (pdq_pa lt _ a' mid lm true true d4 (Nat.lt_succ_self _) (by omega) (by rw [HS4.out]; omega)).size
                        go_wp2_with (go_at_call 40; refine hih.out.mono ?_; rintro e w8 ⟨rfl, hw8⟩; have hw8 := hide hw8)
                        go_roundg (b' - (mid + 1))
                        case measure => omega
                        case rel =>
                          refine ⟨mid + 1, b', lm, decide (mid - a' ≥ (b' - a') / 8), ap, pdq lt d4 a' mid lm true true, by first | rfl | simp, rfl, rfl, ?_, rfl, by omega, by omega, Nat.le_refl _, by omega, hlm2, hide (HPA.out.trans HS4.out), hw8, ?_⟩
                          · exact congrArg Value.bool (eighth (by omega) (by omega))
                          · have hp2 := HP2.out
                            have h87 := h87E.out
                            have hx := X.out
                            obtain ⟨e1, e2⟩ := HE.out
                            rw [e1, e2] at h87 hx
                            exact hide (by rw [← AA.out, pdq_left h12 hl0 hp2 h87 (by rw [hx]; exact ⟨r1, r2⟩) (by rw [hx]; exact h4), hx, HLM.out])
                      · have h4z : ¬ ((mid : Int) - (a' : Int) < (b' : Int) - (mid : Int)) := by omega
                        have hih := hide (show Calls Try.prog 40 #[.slice (some ⟨blk, off, none⟩) d.size cap, .int .i64 ((mid : Int) + 1), .int .i64 b', .int .i64 lm, .func (.func 26) #[.agg #[.int .i64 s, .slice A l c]] #[]] w7 fun e w' => e = .returned (.tuple #[]) ∧ SWK (encI it) 2 w0 blk off (pdq lt d4 (mid + 1) b' lm true true) w' from by
                          have hs4 := HS4.out
                          have h := IH.out (mid + 1) b' lm d4 w7 (by omega) (hs4.trans HS.out) SA7.out (by omega) (by omega) (by omega) (by omega)
                          rw [show ((mid + 1 : Nat) : Int) = (mid : Int) + 1 by omega, hs4] at h
                          exact h)
                        have HPA := hide (pdq_pa lt _ (mid + 1) b' lm true true d4 (Nat.lt_succ_self _) (by omega) (by rw [HS4.out]; omega)).size
                        go_wp2_with (go_at_call 40; refine hih.out.mono ?_; rintro e w8 ⟨rfl, hw8⟩; have hw8 := hide hw8)
                        go_roundg (mid - a')
                        case measure => omega
                        case rel =>
                          refine ⟨a', mid, lm, decide (b' - mid ≥ (b' - a') / 8), ap, pdq lt d4 (mid + 1) b' lm true true, rfl, rfl, rfl, ?_, rfl, by omega, by omega, Nat.le_refl _, by omega, hlm2, hide (HPA.out.trans HS4.out), hw8, ?_⟩
                          · exact congrArg Value.bool (eighth (by omega) (by omega))
                          · have hp2 := HP2.out
                            have h87 := h87E.out
                            have hx := X.out
                            obtain ⟨e1, e2⟩ := HE.out
                            rw [e1, e2] at h87 hx
                            exact hide (by rw [← AA.out, pdq_right h12 hl0 hp2 h87 (by rw [hx]; exact ⟨r1, r2⟩) (by rw [hx]; exact h4), hx, HLM.out])
                    | false =>
                      have eqi : ((ap : Int)).toNat = a' - 1 := by omega
                      have pqi : (0 : Int) ≤ (ap : Int) := by omega
                      have bqi : (ap : Int) < (d.size : Int) := by omega
                      have rqi : IntKind.i64.wrap ((ap : Int)) = (ap : Int) := by rw [IntKind.wrap_i64]; omega
                      have eqj : ((pv : Int)).toNat = pv := by omega
                      have pqj : (0 : Int) ≤ (pv : Int) := by omega
                      have bqj : (pv : Int) < (d.size : Int) := by omega
                      have rqj : IntKind.i64.wrap ((pv : Int)) = (pv : Int) := by rw [IntKind.wrap_i64]; omega
                      obtain ⟨xq, hxq⟩ : ∃ x, x = D[a' - 1]! := ⟨_, rfl⟩
                      obtain ⟨yq, hyq⟩ : ∃ x, x = D[pv]! := ⟨_, rfl⟩
                      have lqa0 : ∀ n os, (grow (wc.drewN n) os).cell? ⟨blk, off + (a' - 1) * 2, none⟩ = some (.int .i64 (it xq).1) := fun n os => by rw [hxq]; exact (SWI.cell0 (S5.out.grown n os) R (S5z.trans HS.out) (i := a' - 1) (by have := S5z; omega)).1
                      have lqa1 : ∀ n os, (grow (wc.drewN n) os).cell? ⟨blk, off + (a' - 1) * 2 + 1, none⟩ = some (.int .i64 (it xq).2) := fun n os => by rw [hxq]; exact (SWI.cell1 (S5.out.grown n os) R (S5z.trans HS.out) (i := a' - 1) (by have := S5z; omega)).1
                      have lqb0 : ∀ n os, (grow (wc.drewN n) os).cell? ⟨blk, off + pv * 2, none⟩ = some (.int .i64 (it yq).1) := fun n os => by rw [hyq]; exact (SWI.cell0 (S5.out.grown n os) R (S5z.trans HS.out) (i := pv) (by have := S5z; omega)).1
                      have lqb1 : ∀ n os, (grow (wc.drewN n) os).cell? ⟨blk, off + pv * 2 + 1, none⟩ = some (.int .i64 (it yq).2) := fun n os => by rw [hyq]; exact (SWI.cell1 (S5.out.grown n os) R (S5z.trans HS.out) (i := pv) (by have := S5z; omega)).1
                      have hcq := SWI.cmp S5.out R C xq yq
                      have hdq : decide (cfI s zs it xq yq < 0) = false := by rw [hxq, hyq]; exact hlv
                      have hvq : ¬ cfI s zs it xq yq < 0 := of_decide_eq_false hdq
                      have SG : Hid (∀ n os, SWK (encI it) 2 w0 blk off D (grow (wc.drewN n) os)) := hide fun n os => S5.out.grown n os
                      obtain ⟨cvq, hcvq⟩ : ∃ z, z = cfI s zs it xq yq := ⟨_, rfl⟩
                      rw [← hcvq] at hcq hdq hvq
                      clear hxq hyq hcvq
                      go_wp2_with fail
                      go_quiet_grown (first | (go_at_call 26; refine Calls.grown_of (hcq _ _)))
                      have S2 : Hid (SWK (encI it) 2 w0 blk off D (grow (wc.drewN nq) osq)) := hide (SG.out nq osq)
                      clear lqa0 lqa1 lqb0 lqb1 hcq SG
                      generalize grow (wc.drewN nq) osq = w2 at S2 ⊢
                      clear nq osq
                      have S6 := hide S2.out
                      clear S2 S5
                      generalize w2 = w6 at S6 ⊢
                      simp only [← zap]
                      clear zap hap ha0d'
                      have h87 : (decide (a' > 0) && !lt D[a' - 1]! D[pv]!) = true := by rw [HLT.out, hlv]; simp [ha0]
                      obtain ⟨mid, d4, hx⟩ : ∃ mid d4, partitionEqual lt D a' b' pv = (mid, d4) := ⟨(partitionEqual lt D a' b' pv).1, (partitionEqual lt D a' b' pv).2, rfl⟩
                      have hpa := partEq_any lt D a' b' pv hpv1 hpv2 (by rw [S5z]; exact hb')
                      rw [hx] at hpa
                      obtain ⟨r1, r2, r3⟩ := hpa
                      have HS4 := hide (r3.size.trans S5z)
                      have h87E := hide h87
                      have hc21 := hide (show Calls Try.prog 51 #[.slice (some ⟨blk, off, none⟩) d.size cap, .int .i64 a', .int .i64 b', .int .i64 pv, .func (.func 26) #[.agg #[.int .i64 s, .slice A l c]] #[]] w6 fun e w' => e = .returned (.int .i64 (mid : Nat)) ∧ SWK (encI it) 2 w0 blk off d4 w' from by
                        obtain ⟨bp, hbp⟩ : ∃ bp, b' = bp + 1 := ⟨b' - 1, by omega⟩
                        have h := partEqualI it s A l c B zs blk off cap a' bp pv d0 D w0 w6 R C (S5z.trans HS.out) S6.out hpv1 (by omega) (by omega) (by omega)
                        rw [← HLT.out, ← hbp, S5z, hx, show (bp : Int) + 1 = (b' : Int) by omega] at h
                        exact h)
                      have X := hide hx
                      clear hx r3 h87
                      go_wp2_with (go_at_call 51; refine hc21.out.mono ?_; rintro e w7 ⟨rfl, hw7⟩; have hw7 := hide hw7)
                      go_roundg (b' - mid)
                      case measure => omega
                      case rel =>
                        have hp2 := HP2.out
                        have h87 := h87E.out
                        have hx := X.out
                        obtain ⟨e1, e2⟩ := HE.out
                        rw [e1, e2] at h87 hx
                        exact ⟨mid, b', lm, wb, wp, d4, rfl, rfl, rfl, rfl, rfl, r2, hb', Nat.le_refl _, by omega, hlm2, HS4, hw7, hide (by rw [← AA.out, pdq_eq h12 hl0 hp2 h87 (by rw [hx]; exact ⟨r1, r2⟩), hx, HLM.out])⟩
end Go.Proofs.Ytiocgmeonfanmaa
