/-
  slices.partialInsertionSortCmpFunc at items.
-/
import Derived.Deep.DeepCutAuto
import Derived.Test.YtiocgmeonfanmaaStB
import Derived.Sort.WalkA6
namespace Go.Proofs.Ytiocgmeonfanmaa
open Go.RowKit Go.Sort Go.Shelf
set_option linter.unusedVariables false
set_option linter.unusedSimpArgs false
variable {α : Type} [Inhabited α]

set_option maxHeartbeats 4000000 in
set_option maxRecDepth 1000000 in
theorem partialI (it : α → Int × Int) (s : Int) (A : Option Addr) (l c B : Nat) (zs : List Int) (blk off cap a b : Nat) (d0 d : Array α) (w0 w : World) (R : RowK (encI it) 2 w0 blk off d0) (C : CmpB s A l c B zs w0 blk) (hs : d.size = d0.size) (S : SWK (encI it) 2 w0 blk off d w) (hab : a < b) (hb : b ≤ d.size) (hsz : d.size < 2305843009213693952) :
    Calls Try.prog 50 #[.slice (some ⟨blk, off, none⟩) d.size cap, .int .i64 a, .int .i64 b, .func (.func 26) #[.agg #[.int .i64 s, .slice A l c]] #[]] w fun e w' => e = .returned (.bool (partialInsertionSort (ltOf (cfI s zs it)) d a b).2) ∧ SWK (encI it) 2 w0 blk off (partialInsertionSort (ltOf (cfI s zs it)) d a b).1 w' := by
  have mixed := mixedI
  have eg := egI
  have HS := hide hs
  clear hs
  have S0 : Hid (SWK (encI it) 2 w0 blk off d w) := S
  clear S
  obtain ⟨PL, hPL⟩ : ∃ PL, PL = partialInsertionSort (ltOf (cfI s zs it)) d a b := ⟨_, rfl⟩
  have HPL0 : Hid (partialIns (ltOf (cfI s zs it)) a b (5 - 0) (a + 1) d = PL) := hide (by rw [hPL]; rfl)
  rw [← hPL]
  clear hPL
  go_enter Try.func50, Try.ntmps50
  go_wp2_with fail
  go_loopw [9, 10] (fun vi vs wr => ∃ (i s5 : Nat) (dk : Array α), vi = .int .i64 ((i : Int) + 1) ∧ vs = .int .i64 s5 ∧ s5 ≤ 5 ∧ a ≤ i ∧ i + 1 ≤ b ∧ Hid (SWK (encI it) 2 w0 blk off dk wr) ∧ Hid (dk.size = d.size) ∧ Hid (partialIns (ltOf (cfI s zs it)) a b (5 - s5) (i + 1) dk = PL)) (fun _ vs _ => 5 - (intOf vs).toNat)
  case atStart => exact ⟨a, 0, d, by first | rfl | go_num, rfl, by omega, by omega, by omega, S0, hide rfl, HPL0⟩
  case round =>
    clear S0 HPL0
    obtain ⟨i, s5, dk, rfl, rfl, hs5, hai, hib, T3, DSk, HPL⟩ := hrel
    obtain ⟨wE, hwE⟩ : ∃ w0 : World, w0 = wr := ⟨_, rfl⟩
    rw [← hwE] at T3 ⊢
    clear hwE
    by_cases hs' : s5 < 5
    · have hs5z : (s5 : Int) < 5 := by omega
      go_wp2_with fail
      go_loopw [9] (fun vi wr => ∃ k : Nat, vi = .int .i64 ((k : Int) + 1) ∧ i ≤ k ∧ k + 1 ≤ b ∧ Hid (SWK (encI it) 2 w0 blk off dk wr) ∧ Hid (scanSorted (ltOf (cfI s zs it)) dk b (k + 1) = scanSorted (ltOf (cfI s zs it)) dk b (i + 1))) (fun vi _ => b + 1 - (intOf vi).toNat)
      case atStart => exact ⟨i, by first | rfl | go_num, Nat.le_refl _, by omega, T3, hide rfl⟩
      case round =>
        clear T3
        obtain ⟨k, rfl, hik, hkb, T1, HE⟩ := hrel
        have T1z : dk.size = d.size := DSk.out
        have hwp : IntKind.i64.wrap (k : Int) = (k : Int) := by rw [IntKind.wrap_i64]; omega
        go_upto_region 5 with fail
        go_cut [36] (fun sv wx => sv = .bool (decide (k + 1 < b) && !ltOf (cfI s zs it) dk[k + 1]! dk[k]!) ∧ Hid (SWK (encI it) 2 w0 blk off dk wx))
        case first =>
          by_cases hle : k + 1 < b
          · have hlez : (k : Int) + 1 < (b : Int) := by omega
            have hled : decide ((k : Int) + 1 < (b : Int)) = true := decide_eq_true hlez
            cases hlv : ltOf (cfI s zs it) dk[k + 1]! dk[k]! with
            | true =>
              have eqi : ((k : Int) + 1).toNat = k + 1 := by omega
              have pqi : (0 : Int) ≤ (k : Int) + 1 := by omega
              have bqi : (k : Int) + 1 < (d.size : Int) := by omega
              have rqi : IntKind.i64.wrap ((k : Int) + 1) = (k : Int) + 1 := by rw [IntKind.wrap_i64]; omega
              have eqj : ((k : Int)).toNat = k := by omega
              have pqj : (0 : Int) ≤ (k : Int) := by omega
              have bqj : (k : Int) < (d.size : Int) := by omega
              have rqj : IntKind.i64.wrap ((k : Int)) = (k : Int) := by rw [IntKind.wrap_i64]; omega
              obtain ⟨xq, hxq⟩ : ∃ x, x = dk[k + 1]! := ⟨_, rfl⟩
              obtain ⟨yq, hyq⟩ : ∃ x, x = dk[k]! := ⟨_, rfl⟩
              have lqa0 : ∀ n os, (grow (wr.drewN n) os).cell? ⟨blk, off + (k + 1) * 2, none⟩ = some (.int .i64 (it xq).1) := fun n os => by rw [hxq]; exact (SWI.cell0 (T1.out.grown n os) R (DSk.out.trans HS.out) (i := k + 1) (by have := T1z; omega)).1
              have lqa1 : ∀ n os, (grow (wr.drewN n) os).cell? ⟨blk, off + (k + 1) * 2 + 1, none⟩ = some (.int .i64 (it xq).2) := fun n os => by rw [hxq]; exact (SWI.cell1 (T1.out.grown n os) R (DSk.out.trans HS.out) (i := k + 1) (by have := T1z; omega)).1
              have lqb0 : ∀ n os, (grow (wr.drewN n) os).cell? ⟨blk, off + k * 2, none⟩ = some (.int .i64 (it yq).1) := fun n os => by rw [hyq]; exact (SWI.cell0 (T1.out.grown n os) R (DSk.out.trans HS.out) (i := k) (by have := T1z; omega)).1
              have lqb1 : ∀ n os, (grow (wr.drewN n) os).cell? ⟨blk, off + k * 2 + 1, none⟩ = some (.int .i64 (it yq).2) := fun n os => by rw [hyq]; exact (SWI.cell1 (T1.out.grown n os) R (DSk.out.trans HS.out) (i := k) (by have := T1z; omega)).1
              have hcq := SWI.cmp T1.out R C xq yq
              have hdq : decide (cfI s zs it xq yq < 0) = true := by rw [hxq, hyq]; exact hlv
              have hvq : cfI s zs it xq yq < 0 := of_decide_eq_true hdq
              have SG : Hid (∀ n os, SWK (encI it) 2 w0 blk off dk (grow (wr.drewN n) os)) := hide fun n os => T1.out.grown n os
              obtain ⟨cvq, hcvq⟩ : ∃ z, z = cfI s zs it xq yq := ⟨_, rfl⟩
              rw [← hcvq] at hcq hdq hvq
              clear hxq hyq hcvq
              go_wp2_with fail
              go_quiet_grown (first | (go_at_call 26; refine Calls.grown_of (hcq _ _)))
              have S2 : Hid (SWK (encI it) 2 w0 blk off dk (grow (wr.drewN nq) osq)) := hide (SG.out nq osq)
              clear lqa0 lqa1 lqb0 lqb1 hcq SG
              go_wp2_with fail
              go_meet
              case rel => exact ⟨by simp [hle, hlv], S2⟩
            | false =>
              have eqi : ((k : Int) + 1).toNat = k + 1 := by omega
              have pqi : (0 : Int) ≤ (k : Int) + 1 := by omega
              have bqi : (k : Int) + 1 < (d.size : Int) := by omega
              have rqi : IntKind.i64.wrap ((k : Int) + 1) = (k : Int) + 1 := by rw [IntKind.wrap_i64]; omega
              have eqj : ((k : Int)).toNat = k := by omega
              have pqj : (0 : Int) ≤ (k : Int) := by omega
              have bqj : (k : Int) < (d.size : Int) := by omega
              have rqj : IntKind.i64.wrap ((k : Int)) = (k : Int) := by rw [IntKind.wrap_i64]; omega
              obtain ⟨xq, hxq⟩ : ∃ x, x = dk[k + 1]! := ⟨_, rfl⟩
              obtain ⟨yq, hyq⟩ : ∃ x, x = dk[k]! := ⟨_, rfl⟩
              have lqa0 : ∀ n os, (grow (wr.drewN n) os).cell? ⟨blk, off + (k + 1) * 2, none⟩ = some (.int .i64 (it xq).1) := fun n os => by rw [hxq]; exact (SWI.cell0 (T1.out.grown n os) R (DSk.out.trans HS.out) (i := k + 1) (by have := T1z; omega)).1
              have lqa1 : ∀ n os, (grow (wr.drewN n) os).cell? ⟨blk, off + (k + 1) * 2 + 1, none⟩ = some (.int .i64 (it xq).2) := fun n os => by rw [hxq]; exact (SWI.cell1 (T1.out.grown n os) R (DSk.out.trans HS.out) (i := k + 1) (by have := T1z; omega)).1
              have lqb0 : ∀ n os, (grow (wr.drewN n) os).cell? ⟨blk, off + k * 2, none⟩ = some (.int .i64 (it yq).1) := fun n os => by rw [hyq]; exact (SWI.cell0 (T1.out.grown n os) R (DSk.out.trans HS.out) (i := k) (by have := T1z; omega)).1
              have lqb1 : ∀ n os, (grow (wr.drewN n) os).cell? ⟨blk, off + k * 2 + 1, none⟩ = some (.int .i64 (it yq).2) := fun n os => by rw [hyq]; exact (SWI.cell1 (T1.out.grown n os) R (DSk.out.trans HS.out) (i := k) (by have := T1z; omega)).1
              have hcq := SWI.cmp T1.out R C xq yq
              have hdq : decide (cfI s zs it xq yq < 0) = false := by rw [hxq, hyq]; exact hlv
              have hvq : ¬ cfI s zs it xq yq < 0 := of_decide_eq_false hdq
              have SG : Hid (∀ n os, SWK (encI it) 2 w0 blk off dk (grow (wr.drewN n) os)) := hide fun n os => T1.out.grown n os
              obtain ⟨cvq, hcvq⟩ : ∃ z, z = cfI s zs it xq yq := ⟨_, rfl⟩
              rw [← hcvq] at hcq hdq hvq
              clear hxq hyq hcvq
              go_wp2_with fail
              go_quiet_grown (first | (go_at_call 26; refine Calls.grown_of (hcq _ _)))
              have S2 : Hid (SWK (encI it) 2 w0 blk off dk (grow (wr.drewN nq) osq)) := hide (SG.out nq osq)
              clear lqa0 lqa1 lqb0 lqb1 hcq SG
              go_wp2_with fail
              go_meet
              case rel => exact ⟨by simp [hle, hlv], S2⟩
          · have hlez : ¬ (k : Int) + 1 < (b : Int) := by omega
            have hled : decide ((k : Int) + 1 < (b : Int)) = false := decide_eq_false hlez
            have S2 : Hid (SWK (encI it) 2 w0 blk off dk wr.drew) := hide T1.out.drew
            go_wp2_with fail
            go_big_region_o
            go_wp2_with fail
            go_meet
            case rel => exact ⟨by simp [hle], S2⟩
        case rest =>
          obtain ⟨hsv, S2⟩ := hcut
          subst hsv
          cases hbb : (decide (k + 1 < b) && !ltOf (cfI s zs it) dk[k + 1]! dk[k]!) with
          | true =>
            have hb2 : k + 1 < b ∧ ltOf (cfI s zs it) dk[k + 1]! dk[k]! = false := by simpa using hbb
            have HN : Hid (scanSorted (ltOf (cfI s zs it)) dk b (k + 1 + 1) = scanSorted (ltOf (cfI s zs it)) dk b (i + 1)) := hide (by rw [← HE.out]; exact (scanSorted_go _ dk b (k + 1) hb2.1 hb2.2).symm)
            have hle2 := hb2.1
            clear hbb hb2
            go_wp2_with fail
            go_roundw
            case rel => first | exact ⟨k + 1, by first | go_num | (congr 1; omega), by omega, by omega, S2, HN⟩ | ((repeat apply Exists.intro); exact ⟨⟨k + 1, by first | go_num | (congr 1; omega), by omega, by omega, S2, HN⟩, rfl⟩)
            case measure => simp [intOf] <;> omega
          | false =>
            have HK : Hid (scanSorted (ltOf (cfI s zs it)) dk b (i + 1) = k + 1) := hide (by
              rw [← HE.out]
              refine scanSorted_stop _ dk b (k + 1) ?_
              rcases Bool.and_eq_false_iff.1 hbb with h | h
              · exact .inl (by simpa using h)
              · exact .inr (by simpa using h))
            clear hbb HE T1
            obtain ⟨wD, hwD⟩ : ∃ w0 : World, w0 = wc := ⟨_, rfl⟩
            rw [← hwD] at S2 ⊢
            clear hwD
            have SD := S2
            clear S2
            by_cases hkb' : k + 1 = b
            · have hkeqz : (k : Int) + 1 = (b : Int) := by omega
              have hkeq : ((k : Int) + 1 == (b : Int)) = true := by simp [hkeqz]
              have HP : Hid (PL = (dk, true)) := hide (by rw [← HPL.out]; exact pi_true _ a b s5 (i + 1) dk hs' (by rw [HK.out]; exact hkb'))
              go_wp2
              go_ret
              exact ⟨by rw [HP.out] <;> rfl, by rw [HP.out]; exact SD.out⟩
            · have hknez : ¬ (k : Int) + 1 = (b : Int) := by omega
              have hkne : ((k : Int) + 1 == (b : Int)) = false := by simp [hknez]
              by_cases h50 : b - a < 50
              · have h50z : (b : Int) - (a : Int) < 50 := by omega
                have HP : Hid (PL = (dk, false)) := hide (by rw [← HPL.out]; exact pi_short _ a b s5 (i + 1) dk hs' (by rw [HK.out]; exact hkb') h50)
                go_wp2
                go_ret
                exact ⟨by rw [HP.out] <;> rfl, by rw [HP.out]; exact SD.out⟩
              · have h50z : ¬ (b : Int) - (a : Int) < 50 := by omega
                have SDz : dk.size = d.size := DSk.out
                have hkd : k + 1 < b := by omega
                have HP : Hid (partialIns (ltOf (cfI s zs it)) a b (5 - (s5 + 1)) (k + 1) (fixUp (ltOf (cfI s zs it)) b (k + 1) (fixDown (ltOf (cfI s zs it)) a (k + 1) (swp dk (k + 1) k))) = PL) := hide (by rw [← HPL.out]; exact (pi_go _ a b s5 (i + 1) (k + 1) dk hs' HK.out hkb' h50).symm)
                have esi : ((k : Int) + 1).toNat = k + 1 := by omega
                have psi : (0 : Int) ≤ (k : Int) + 1 := by omega
                have bsi : (k : Int) + 1 < (d.size : Int) := by omega
                have rsi : IntKind.i64.wrap ((k : Int) + 1) = (k : Int) + 1 := by rw [IntKind.wrap_i64]; omega
                have esj : ((k : Int)).toNat = k := by omega
                have psj : (0 : Int) ≤ (k : Int) := by omega
                have bsj : (k : Int) < (d.size : Int) := by omega
                have rsj : IntKind.i64.wrap ((k : Int)) = (k : Int) := by rw [IntKind.wrap_i64]; omega
                have S3 : Hid _ := hide (SWI.swapped SD.out R (k + 1) (k) (by have := SDz; omega) (by have := SDz; omega))
                obtain ⟨cs1, fs1⟩ := SWI.cell0 SD.out R (DSk.out.trans HS.out) (i := k + 1) (by have := SDz; omega)
                obtain ⟨cs1b, fs1b⟩ := SWI.cell1 SD.out R (DSk.out.trans HS.out) (i := k + 1) (by have := SDz; omega)
                obtain ⟨cs3, fs3⟩ := SWI.cell0 SD.out R (DSk.out.trans HS.out) (i := k) (by have := SDz; omega)
                obtain ⟨cs3b, fs3b⟩ := SWI.cell1 SD.out R (DSk.out.trans HS.out) (i := k) (by have := SDz; omega)
                obtain ⟨xs1, hxs1⟩ : ∃ x, x = dk[k + 1]! := ⟨_, rfl⟩
                obtain ⟨xs3, hxs3⟩ : ∃ x, x = dk[k]! := ⟨_, rfl⟩
                rw [← hxs1] at S3 cs1 cs1b
                rw [← hxs3] at S3 cs3 cs3b
                clear hxs1 hxs3
                go_wp2_with fail
                go_big_region_o
                clear cs1 cs1b cs3 cs3b fs1 fs1b fs3 fs3b
                generalize World.drew _ = w3 at S3 ⊢
                obtain ⟨d1, hd1⟩ : ∃ d1, d1 = swp dk (k + 1) k := ⟨_, rfl⟩
                have DS1 : Hid (d1.size = d.size) := hide (by rw [hd1, size_swp]; exact DSk.out)
                rw [← hd1] at S3
                have HP1 : Hid (partialIns (ltOf (cfI s zs it)) a b (5 - (s5 + 1)) (k + 1) (fixUp (ltOf (cfI s zs it)) b (k + 1) (fixDown (ltOf (cfI s zs it)) a (k + 1) d1)) = PL) := hide (by rw [hd1]; exact HP.out)
                clear hd1 HP SD HK
                obtain ⟨D, hD⟩ : ∃ D, D = fixDown (ltOf (cfI s zs it)) a (k + 1) d1 := ⟨_, rfl⟩
                have HD := hide hD
                have HP2 : Hid (partialIns (ltOf (cfI s zs it)) a b (5 - (s5 + 1)) (k + 1) (fixUp (ltOf (cfI s zs it)) b (k + 1) D) = PL) := hide (by rw [hD]; exact HP1.out)
                clear hD HP1
                go_upto_if 65 with fail
                go_cut [] (fun wx => Hid (SWK (encI it) 2 w0 blk off D wx) ∧ Hid (D.size = d.size))
                case first =>
                  by_cases hka : k + 1 - a ≥ 2
                  · have hkaz : (2 : Int) ≤ (k : Int) + 1 - (a : Int) := by omega
                    have hkad : decide ((2 : Int) ≤ (k : Int) + 1 - (a : Int)) = true := decide_eq_true hkaz
                    (try rw [hkad])
                    have HD2 : Hid (shiftDown (ltOf (cfI s zs it)) k d1 = D) := hide (by rw [HD.out]; unfold fixDown; rw [if_pos hka]; rfl)
                    go_wp2_with fail
                    go_loopw [11] (fun vj wr => ∃ (j : Nat) (dj : Array α), vj = .int .i64 j ∧ j ≤ k ∧ Hid (SWK (encI it) 2 w0 blk off dj wr) ∧ Hid (dj.size = d.size) ∧ Hid (shiftDown (ltOf (cfI s zs it)) j dj = D)) (fun vj _ => (intOf vj).toNat)
                    case atStart => exact ⟨k, d1, by first | rfl | go_num, by omega, S3, DS1, HD2⟩
                    case round =>
                      clear S3 HD2
                      obtain ⟨j, dj, rfl, hjk, T1, DSj, HJ⟩ := hrel
                      cases j with
                      | zero =>
                        have HX : Hid (dj = D) := hide (by rw [← HJ.out]; rfl)
                        go_wp2_with fail
                        go_meet
                        case rel => exact ⟨hide (by rw [← HX.out]; exact T1.out), hide (by rw [← HX.out]; exact DSj.out)⟩
                      | succ jp =>
                        have hj1z : (1 : Int) ≤ (jp : Int) + 1 := by omega
                        have T1z : dj.size = d.size := DSj.out
                        have hwj : IntKind.i64.wrap (jp : Int) = (jp : Int) := by rw [IntKind.wrap_i64]; omega
                        cases hlv : ltOf (cfI s zs it) dj[jp + 1]! dj[jp]! with
                        | true =>
                          have HN : Hid (shiftDown (ltOf (cfI s zs it)) jp (swp dj (jp + 1) jp) = D) := hide (by rw [← HJ.out]; exact (shiftDown_go _ (jp + 1) dj (by omega) hlv).symm)
                          have eqi : ((jp : Int) + 1).toNat = jp + 1 := by omega
                          have pqi : (0 : Int) ≤ (jp : Int) + 1 := by omega
                          have bqi : (jp : Int) + 1 < (d.size : Int) := by omega
                          have rqi : IntKind.i64.wrap ((jp : Int) + 1) = (jp : Int) + 1 := by rw [IntKind.wrap_i64]; omega
                          have eqj : ((jp : Int)).toNat = jp := by omega
                          have pqj : (0 : Int) ≤ (jp : Int) := by omega
                          have bqj : (jp : Int) < (d.size : Int) := by omega
                          have rqj : IntKind.i64.wrap ((jp : Int)) = (jp : Int) := by rw [IntKind.wrap_i64]; omega
                          obtain ⟨xq, hxq⟩ : ∃ x, x = dj[jp + 1]! := ⟨_, rfl⟩
                          obtain ⟨yq, hyq⟩ : ∃ x, x = dj[jp]! := ⟨_, rfl⟩
                          have lqa0 : ∀ n os, (grow (wr.drewN n) os).cell? ⟨blk, off + (jp + 1) * 2, none⟩ = some (.int .i64 (it xq).1) := fun n os => by rw [hxq]; exact (SWI.cell0 (T1.out.grown n os) R (DSj.out.trans HS.out) (i := jp + 1) (by have := T1z; omega)).1
                          have lqa1 : ∀ n os, (grow (wr.drewN n) os).cell? ⟨blk, off + (jp + 1) * 2 + 1, none⟩ = some (.int .i64 (it xq).2) := fun n os => by rw [hxq]; exact (SWI.cell1 (T1.out.grown n os) R (DSj.out.trans HS.out) (i := jp + 1) (by have := T1z; omega)).1
                          have lqb0 : ∀ n os, (grow (wr.drewN n) os).cell? ⟨blk, off + jp * 2, none⟩ = some (.int .i64 (it yq).1) := fun n os => by rw [hyq]; exact (SWI.cell0 (T1.out.grown n os) R (DSj.out.trans HS.out) (i := jp) (by have := T1z; omega)).1
                          have lqb1 : ∀ n os, (grow (wr.drewN n) os).cell? ⟨blk, off + jp * 2 + 1, none⟩ = some (.int .i64 (it yq).2) := fun n os => by rw [hyq]; exact (SWI.cell1 (T1.out.grown n os) R (DSj.out.trans HS.out) (i := jp) (by have := T1z; omega)).1
                          have hcq := SWI.cmp T1.out R C xq yq
                          have hdq : decide (cfI s zs it xq yq < 0) = true := by rw [hxq, hyq]; exact hlv
                          have hvq : cfI s zs it xq yq < 0 := of_decide_eq_true hdq
                          have SG : Hid (∀ n os, SWK (encI it) 2 w0 blk off dj (grow (wr.drewN n) os)) := hide fun n os => T1.out.grown n os
                          obtain ⟨cvq, hcvq⟩ : ∃ z, z = cfI s zs it xq yq := ⟨_, rfl⟩
                          rw [← hcvq] at hcq hdq hvq
                          clear hxq hyq hcvq
                          go_wp2_with fail
                          go_quiet_grown (first | (go_at_call 26; refine Calls.grown_of (hcq _ _)))
                          have S2 : Hid (SWK (encI it) 2 w0 blk off dj (grow (wr.drewN nq) osq)) := hide (SG.out nq osq)
                          clear lqa0 lqa1 lqb0 lqb1 hcq SG
                          generalize grow (wr.drewN nq) osq = w2 at S2 ⊢
                          clear nq osq
                          have S2z : dj.size = d.size := DSj.out
                          have S3 : Hid _ := hide (SWI.swapped S2.out R (jp + 1) (jp) (by have := S2z; omega) (by have := S2z; omega))
                          obtain ⟨cs1, fs1⟩ := SWI.cell0 S2.out R (DSj.out.trans HS.out) (i := jp + 1) (by have := S2z; omega)
                          obtain ⟨cs1b, fs1b⟩ := SWI.cell1 S2.out R (DSj.out.trans HS.out) (i := jp + 1) (by have := S2z; omega)
                          obtain ⟨cs3, fs3⟩ := SWI.cell0 S2.out R (DSj.out.trans HS.out) (i := jp) (by have := S2z; omega)
                          obtain ⟨cs3b, fs3b⟩ := SWI.cell1 S2.out R (DSj.out.trans HS.out) (i := jp) (by have := S2z; omega)
                          obtain ⟨xs1, hxs1⟩ : ∃ x, x = dj[jp + 1]! := ⟨_, rfl⟩
                          obtain ⟨xs3, hxs3⟩ : ∃ x, x = dj[jp]! := ⟨_, rfl⟩
                          rw [← hxs1] at S3 cs1 cs1b
                          rw [← hxs3] at S3 cs3 cs3b
                          clear hxs1 hxs3
                          go_wp2_with fail
                          go_big_region_o
                          clear cs1 cs1b cs3 cs3b fs1 fs1b fs3 fs3b
                          generalize World.drew _ = w3 at S3 ⊢
                          go_wp2_with fail
                          go_roundw
                          case rel => first | exact ⟨jp, swp dj (jp + 1) jp, by first | rfl | go_num, by omega, S3, hide (by rw [size_swp]; exact DSj.out), HN⟩ | ((repeat apply Exists.intro); exact ⟨⟨jp, swp dj (jp + 1) jp, by first | rfl | go_num, by omega, S3, hide (by rw [size_swp]; exact DSj.out), HN⟩, rfl⟩)
                          case measure => simp [intOf] <;> omega
                        | false =>
                          have HX : Hid (dj = D) := hide (by rw [← HJ.out]; exact (shiftDown_stop _ (jp + 1) dj (.inr hlv)).symm)
                          have eqi : ((jp : Int) + 1).toNat = jp + 1 := by omega
                          have pqi : (0 : Int) ≤ (jp : Int) + 1 := by omega
                          have bqi : (jp : Int) + 1 < (d.size : Int) := by omega
                          have rqi : IntKind.i64.wrap ((jp : Int) + 1) = (jp : Int) + 1 := by rw [IntKind.wrap_i64]; omega
                          have eqj : ((jp : Int)).toNat = jp := by omega
                          have pqj : (0 : Int) ≤ (jp : Int) := by omega
                          have bqj : (jp : Int) < (d.size : Int) := by omega
                          have rqj : IntKind.i64.wrap ((jp : Int)) = (jp : Int) := by rw [IntKind.wrap_i64]; omega
                          obtain ⟨xq, hxq⟩ : ∃ x, x = dj[jp + 1]! := ⟨_, rfl⟩
                          obtain ⟨yq, hyq⟩ : ∃ x, x = dj[jp]! := ⟨_, rfl⟩
                          have lqa0 : ∀ n os, (grow (wr.drewN n) os).cell? ⟨blk, off + (jp + 1) * 2, none⟩ = some (.int .i64 (it xq).1) := fun n os => by rw [hxq]; exact (SWI.cell0 (T1.out.grown n os) R (DSj.out.trans HS.out) (i := jp + 1) (by have := T1z; omega)).1
                          have lqa1 : ∀ n os, (grow (wr.drewN n) os).cell? ⟨blk, off + (jp + 1) * 2 + 1, none⟩ = some (.int .i64 (it xq).2) := fun n os => by rw [hxq]; exact (SWI.cell1 (T1.out.grown n os) R (DSj.out.trans HS.out) (i := jp + 1) (by have := T1z; omega)).1
                          have lqb0 : ∀ n os, (grow (wr.drewN n) os).cell? ⟨blk, off + jp * 2, none⟩ = some (.int .i64 (it yq).1) := fun n os => by rw [hyq]; exact (SWI.cell0 (T1.out.grown n os) R (DSj.out.trans HS.out) (i := jp) (by have := T1z; omega)).1
                          have lqb1 : ∀ n os, (grow (wr.drewN n) os).cell? ⟨blk, off + jp * 2 + 1, none⟩ = some (.int .i64 (it yq).2) := fun n os => by rw [hyq]; exact (SWI.cell1 (T1.out.grown n os) R (DSj.out.trans HS.out) (i := jp) (by have := T1z; omega)).1
                          have hcq := SWI.cmp T1.out R C xq yq
                          have hdq : decide (cfI s zs it xq yq < 0) = false := by rw [hxq, hyq]; exact hlv
                          have hvq : ¬ cfI s zs it xq yq < 0 := of_decide_eq_false hdq
                          have SG : Hid (∀ n os, SWK (encI it) 2 w0 blk off dj (grow (wr.drewN n) os)) := hide fun n os => T1.out.grown n os
                          obtain ⟨cvq, hcvq⟩ : ∃ z, z = cfI s zs it xq yq := ⟨_, rfl⟩
                          rw [← hcvq] at hcq hdq hvq
                          clear hxq hyq hcvq
                          go_wp2_with fail
                          go_quiet_grown (first | (go_at_call 26; refine Calls.grown_of (hcq _ _)))
                          have S2 : Hid (SWK (encI it) 2 w0 blk off dj (grow (wr.drewN nq) osq)) := hide (SG.out nq osq)
                          clear lqa0 lqa1 lqb0 lqb1 hcq SG
                          go_wp2_with fail
                          go_meet
                          case rel => exact ⟨hide (by rw [← HX.out]; exact S2.out), hide (by rw [← HX.out]; exact DSj.out)⟩
                  · have hkaz : ¬ (2 : Int) ≤ (k : Int) + 1 - (a : Int) := by omega
                    have hkad : decide ((2 : Int) ≤ (k : Int) + 1 - (a : Int)) = false := decide_eq_false hkaz
                    have HX : Hid (d1 = D) := hide (by rw [HD.out]; unfold fixDown; rw [if_neg hka])
                    go_wp2_with fail
                    go_meet
                    case rel => exact ⟨hide (by rw [← HX.out]; exact S3.out), hide (by rw [← HX.out]; exact DS1.out)⟩
                case rest =>
                  clear S3 DS1 HD
                  obtain ⟨S4, DSD⟩ := hcut
                  obtain ⟨wF, hwF⟩ : ∃ w0 : World, w0 = wc := ⟨_, rfl⟩
                  rw [← hwF] at S4 ⊢
                  clear hwF
                  obtain ⟨U, hU⟩ : ∃ U, U = fixUp (ltOf (cfI s zs it)) b (k + 1) D := ⟨_, rfl⟩
                  have HU := hide hU
                  have HP3 : Hid (partialIns (ltOf (cfI s zs it)) a b (5 - (s5 + 1)) (k + 1) U = PL) := hide (by rw [hU]; exact HP2.out)
                  clear hU HP2
                  by_cases hbk : b - (k + 1) ≥ 2
                  · have hbkz : (2 : Int) ≤ (b : Int) - ((k : Int) + 1) := by omega
                    have hbkd : decide ((2 : Int) ≤ (b : Int) - ((k : Int) + 1)) = true := decide_eq_true hbkz
                    have HU2 : Hid (shiftUp (ltOf (cfI s zs it)) b (k + 1 + 1) D = U) := hide (by rw [HU.out]; unfold fixUp; rw [if_pos hbk])
                    go_wp2_with fail
                    go_loopw [12] (fun vj wr => ∃ (j : Nat) (dj : Array α), vj = .int .i64 ((j : Int) + 1) ∧ k + 1 ≤ j ∧ j + 1 ≤ b ∧ Hid (SWK (encI it) 2 w0 blk off dj wr) ∧ Hid (dj.size = d.size) ∧ Hid (shiftUp (ltOf (cfI s zs it)) b (j + 1) dj = U)) (fun vj _ => b + 1 - (intOf vj).toNat)
                    case atStart => exact ⟨k + 1, D, by first | rfl | go_num | (congr 1; omega), by omega, by omega, S4, DSD, HU2⟩
                    case round =>
                      clear S4 HU2
                      obtain ⟨j, dj, rfl, hjk, hjb, T1, DSj, HJ⟩ := hrel
                      have hwj : IntKind.i64.wrap (j : Int) = (j : Int) := by rw [IntKind.wrap_i64]; omega
                      by_cases hjb2 : j + 1 < b
                      · have hj1z : (j : Int) + 1 < (b : Int) := by omega
                        have T1z : dj.size = d.size := DSj.out
                        cases hlv : ltOf (cfI s zs it) dj[j + 1]! dj[j]! with
                        | true =>
                          have HN : Hid (shiftUp (ltOf (cfI s zs it)) b (j + 1 + 1) (swp dj (j + 1) j) = U) := hide (by rw [← HJ.out]; exact (shiftUp_go _ b (j + 1) dj hjb2 hlv).symm)
                          have eqi : ((j : Int) + 1).toNat = j + 1 := by omega
                          have pqi : (0 : Int) ≤ (j : Int) + 1 := by omega
                          have bqi : (j : Int) + 1 < (d.size : Int) := by omega
                          have rqi : IntKind.i64.wrap ((j : Int) + 1) = (j : Int) + 1 := by rw [IntKind.wrap_i64]; omega
                          have eqj : ((j : Int)).toNat = j := by omega
                          have pqj : (0 : Int) ≤ (j : Int) := by omega
                          have bqj : (j : Int) < (d.size : Int) := by omega
                          have rqj : IntKind.i64.wrap ((j : Int)) = (j : Int) := by rw [IntKind.wrap_i64]; omega
                          obtain ⟨xq, hxq⟩ : ∃ x, x = dj[j + 1]! := ⟨_, rfl⟩
                          obtain ⟨yq, hyq⟩ : ∃ x, x = dj[j]! := ⟨_, rfl⟩
                          have lqa0 : ∀ n os, (grow (wr.drewN n) os).cell? ⟨blk, off + (j + 1) * 2, none⟩ = some (.int .i64 (it xq).1) := fun n os => by rw [hxq]; exact (SWI.cell0 (T1.out.grown n os) R (DSj.out.trans HS.out) (i := j + 1) (by have := T1z; omega)).1
                          have lqa1 : ∀ n os, (grow (wr.drewN n) os).cell? ⟨blk, off + (j + 1) * 2 + 1, none⟩ = some (.int .i64 (it xq).2) := fun n os => by rw [hxq]; exact (SWI.cell1 (T1.out.grown n os) R (DSj.out.trans HS.out) (i := j + 1) (by have := T1z; omega)).1
                          have lqb0 : ∀ n os, (grow (wr.drewN n) os).cell? ⟨blk, off + j * 2, none⟩ = some (.int .i64 (it yq).1) := fun n os => by rw [hyq]; exact (SWI.cell0 (T1.out.grown n os) R (DSj.out.trans HS.out) (i := j) (by have := T1z; omega)).1
                          have lqb1 : ∀ n os, (grow (wr.drewN n) os).cell? ⟨blk, off + j * 2 + 1, none⟩ = some (.int .i64 (it yq).2) := fun n os => by rw [hyq]; exact (SWI.cell1 (T1.out.grown n os) R (DSj.out.trans HS.out) (i := j) (by have := T1z; omega)).1
                          have hcq := SWI.cmp T1.out R C xq yq
                          have hdq : decide (cfI s zs it xq yq < 0) = true := by rw [hxq, hyq]; exact hlv
                          have hvq : cfI s zs it xq yq < 0 := of_decide_eq_true hdq
                          have SG : Hid (∀ n os, SWK (encI it) 2 w0 blk off dj (grow (wr.drewN n) os)) := hide fun n os => T1.out.grown n os
                          obtain ⟨cvq, hcvq⟩ : ∃ z, z = cfI s zs it xq yq := ⟨_, rfl⟩
                          rw [← hcvq] at hcq hdq hvq
                          clear hxq hyq hcvq
                          go_wp2_with fail
                          go_quiet_grown (first | (go_at_call 26; refine Calls.grown_of (hcq _ _)))
                          have S2 : Hid (SWK (encI it) 2 w0 blk off dj (grow (wr.drewN nq) osq)) := hide (SG.out nq osq)
                          clear lqa0 lqa1 lqb0 lqb1 hcq SG
                          generalize grow (wr.drewN nq) osq = w2 at S2 ⊢
                          clear nq osq
                          have S2z : dj.size = d.size := DSj.out
                          have S3 : Hid _ := hide (SWI.swapped S2.out R (j + 1) (j) (by have := S2z; omega) (by have := S2z; omega))
                          obtain ⟨cs1, fs1⟩ := SWI.cell0 S2.out R (DSj.out.trans HS.out) (i := j + 1) (by have := S2z; omega)
                          obtain ⟨cs1b, fs1b⟩ := SWI.cell1 S2.out R (DSj.out.trans HS.out) (i := j + 1) (by have := S2z; omega)
                          obtain ⟨cs3, fs3⟩ := SWI.cell0 S2.out R (DSj.out.trans HS.out) (i := j) (by have := S2z; omega)
                          obtain ⟨cs3b, fs3b⟩ := SWI.cell1 S2.out R (DSj.out.trans HS.out) (i := j) (by have := S2z; omega)
                          obtain ⟨xs1, hxs1⟩ : ∃ x, x = dj[j + 1]! := ⟨_, rfl⟩
                          obtain ⟨xs3, hxs3⟩ : ∃ x, x = dj[j]! := ⟨_, rfl⟩
                          rw [← hxs1] at S3 cs1 cs1b
                          rw [← hxs3] at S3 cs3 cs3b
                          clear hxs1 hxs3
                          go_wp2_with fail
                          go_big_region_o
                          clear cs1 cs1b cs3 cs3b fs1 fs1b fs3 fs3b
                          generalize World.drew _ = w3 at S3 ⊢
                          go_wp2_with fail
                          go_roundw
                          case rel => first | exact ⟨j + 1, swp dj (j + 1) j, by first | rfl | go_num | (congr 1; omega), by omega, by omega, S3, hide (by rw [size_swp]; exact DSj.out), HN⟩ | ((repeat apply Exists.intro); exact ⟨⟨j + 1, swp dj (j + 1) j, by first | rfl | go_num | (congr 1; omega), by omega, by omega, S3, hide (by rw [size_swp]; exact DSj.out), HN⟩, rfl⟩)
                          case measure => simp [intOf] <;> omega
                        | false =>
                          have HX : Hid (dj = U) := hide (by rw [← HJ.out]; exact (shiftUp_stop _ b (j + 1) dj (.inr hlv)).symm)
                          have eqi : ((j : Int) + 1).toNat = j + 1 := by omega
                          have pqi : (0 : Int) ≤ (j : Int) + 1 := by omega
                          have bqi : (j : Int) + 1 < (d.size : Int) := by omega
                          have rqi : IntKind.i64.wrap ((j : Int) + 1) = (j : Int) + 1 := by rw [IntKind.wrap_i64]; omega
                          have eqj : ((j : Int)).toNat = j := by omega
                          have pqj : (0 : Int) ≤ (j : Int) := by omega
                          have bqj : (j : Int) < (d.size : Int) := by omega
                          have rqj : IntKind.i64.wrap ((j : Int)) = (j : Int) := by rw [IntKind.wrap_i64]; omega
                          obtain ⟨xq, hxq⟩ : ∃ x, x = dj[j + 1]! := ⟨_, rfl⟩
                          obtain ⟨yq, hyq⟩ : ∃ x, x = dj[j]! := ⟨_, rfl⟩
                          have lqa0 : ∀ n os, (grow (wr.drewN n) os).cell? ⟨blk, off + (j + 1) * 2, none⟩ = some (.int .i64 (it xq).1) := fun n os => by rw [hxq]; exact (SWI.cell0 (T1.out.grown n os) R (DSj.out.trans HS.out) (i := j + 1) (by have := T1z; omega)).1
                          have lqa1 : ∀ n os, (grow (wr.drewN n) os).cell? ⟨blk, off + (j + 1) * 2 + 1, none⟩ = some (.int .i64 (it xq).2) := fun n os => by rw [hxq]; exact (SWI.cell1 (T1.out.grown n os) R (DSj.out.trans HS.out) (i := j + 1) (by have := T1z; omega)).1
                          have lqb0 : ∀ n os, (grow (wr.drewN n) os).cell? ⟨blk, off + j * 2, none⟩ = some (.int .i64 (it yq).1) := fun n os => by rw [hyq]; exact (SWI.cell0 (T1.out.grown n os) R (DSj.out.trans HS.out) (i := j) (by have := T1z; omega)).1
                          have lqb1 : ∀ n os, (grow (wr.drewN n) os).cell? ⟨blk, off + j * 2 + 1, none⟩ = some (.int .i64 (it yq).2) := fun n os => by rw [hyq]; exact (SWI.cell1 (T1.out.grown n os) R (DSj.out.trans HS.out) (i := j) (by have := T1z; omega)).1
                          have hcq := SWI.cmp T1.out R C xq yq
                          have hdq : decide (cfI s zs it xq yq < 0) = false := by rw [hxq, hyq]; exact hlv
                          have hvq : ¬ cfI s zs it xq yq < 0 := of_decide_eq_false hdq
                          have SG : Hid (∀ n os, SWK (encI it) 2 w0 blk off dj (grow (wr.drewN n) os)) := hide fun n os => T1.out.grown n os
                          obtain ⟨cvq, hcvq⟩ : ∃ z, z = cfI s zs it xq yq := ⟨_, rfl⟩
                          rw [← hcvq] at hcq hdq hvq
                          clear hxq hyq hcvq
                          go_wp2_with fail
                          go_quiet_grown (first | (go_at_call 26; refine Calls.grown_of (hcq _ _)))
                          have S2 : Hid (SWK (encI it) 2 w0 blk off dj (grow (wr.drewN nq) osq)) := hide (SG.out nq osq)
                          clear lqa0 lqa1 lqb0 lqb1 hcq SG
                          go_wp2_with fail
                          have SX : Hid (SWK (encI it) 2 w0 blk off U _) := hide (by rw [← HX.out]; exact S2.out)
                          have DX : Hid (U.size = d.size) := hide (by rw [← HX.out]; exact DSj.out)
                          go_roundw
                          case rel => first | exact ⟨k, s5 + 1, U, rfl, by go_num, by omega, by omega, by omega, SX, DX, HP3⟩ | ((repeat apply Exists.intro); exact ⟨⟨k, s5 + 1, U, rfl, by go_num, by omega, by omega, by omega, SX, DX, HP3⟩, rfl⟩)
                          case measure => simp [intOf] <;> omega
                      · have hj1z : ¬ (j : Int) + 1 < (b : Int) := by omega
                        have HX : Hid (dj = U) := hide (by rw [← HJ.out]; exact (shiftUp_stop _ b (j + 1) dj (.inl hjb2)).symm)
                        go_wp2_with fail
                        have SX : Hid (SWK (encI it) 2 w0 blk off U _) := hide (by rw [← HX.out]; exact T1.out)
                        have DX : Hid (U.size = d.size) := hide (by rw [← HX.out]; exact DSj.out)
                        go_roundw
                        case rel => first | exact ⟨k, s5 + 1, U, rfl, by go_num, by omega, by omega, by omega, SX, DX, HP3⟩ | ((repeat apply Exists.intro); exact ⟨⟨k, s5 + 1, U, rfl, by go_num, by omega, by omega, by omega, SX, DX, HP3⟩, rfl⟩)
                        case measure => simp [intOf] <;> omega
                  · have hbkz : ¬ (2 : Int) ≤ (b : Int) - ((k : Int) + 1) := by omega
                    have hbkd : decide ((2 : Int) ≤ (b : Int) - ((k : Int) + 1)) = false := decide_eq_false hbkz
                    have HX : Hid (D = U) := hide (by rw [HU.out]; unfold fixUp; rw [if_neg hbk])
                    go_wp2_with fail
                    have SX : Hid (SWK (encI it) 2 w0 blk off U _) := hide (by rw [← HX.out]; exact S4.out)
                    have DX : Hid (U.size = d.size) := hide (by rw [← HX.out]; exact DSD.out)
                    go_roundw
                    case rel => first | exact ⟨k, s5 + 1, U, rfl, by go_num, by omega, by omega, by omega, SX, DX, HP3⟩ | ((repeat apply Exists.intro); exact ⟨⟨k, s5 + 1, U, rfl, by go_num, by omega, by omega, by omega, SX, DX, HP3⟩, rfl⟩)
                    case measure => simp [intOf] <;> omega
    · obtain rfl : s5 = 5 := by omega
      have HP : Hid (PL = (dk, false)) := hide (by rw [← HPL.out]; rfl)
      go_wp2
      go_ret
      exact ⟨by rw [HP.out] <;> rfl, by rw [HP.out]; exact T3.out⟩
end Go.Proofs.Ytiocgmeonfanmaa
