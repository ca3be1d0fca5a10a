/-
  slices.symMergeCmpFunc at items: the left part is one element.
-/
import Derived.Test.YtiocgmeonfanmaaStB
namespace Go.Proofs.Ytiocgmeonfanmaa
open Go.RowKit Go.Sort Go.Shelf
set_option linter.unusedVariables false
set_option linter.unusedSimpArgs false
variable {α : Type} [Inhabited α]

set_option maxHeartbeats 2000000 in
set_option maxRecDepth 1000000 in
theorem symA (it : α → Int × Int) (ix : α → Nat) (s : Int) (A : Option Addr) (l c B : Nat) (zs : List Int) (blk off cap a b : Nat) (d0 d : Array α) (w0 w : World) (R : RowK (encI it) 2 w0 blk off d0) (C : CmpB s A l c B zs w0 blk) (hs : d.size = d0.size) (S : SWK (encI it) 2 w0 blk off d w) (hab : a + 1 < b) (hb : b ≤ d.size) (hsz : d.size < 4611686018427387904) :
    Calls Try.prog 55 #[.slice (some ⟨blk, off, none⟩) d.size cap, .int .i64 a, .int .i64 ((a : Int) + 1), .int .i64 b, .func (.func 26) #[.agg #[.int .i64 s, .slice A l c]] #[]] w fun e w' => e = .returned (.tuple #[]) ∧ ∃ d', SWK (encI it) 2 w0 blk off d' w' ∧ Mrg (ltOf (cfI s zs it)) ix a (a + 1) b d d' := by
  have mixed := mixedI
  have eg := egI
  have HS := hide hs
  clear hs
  have S0 : Hid (SWK (encI it) 2 w0 blk off d w) := S
  clear S
  have hone : (a : Int) + 1 - (a : Int) = 1 := by omega
  go_enter Try.func55, Try.ntmps55
  go_wp2
  go_loopw [10, 11] (fun vi vj wr => ∃ i j : Nat, vi = .int .i64 i ∧ vj = .int .i64 j ∧ a + 1 ≤ i ∧ i ≤ j ∧ j ≤ b ∧ Hid (SWK (encI it) 2 w0 blk off d wr) ∧ Hid (i = a + 1 ∨ ltOf (cfI s zs it) d[i - 1]! d[a]! = true) ∧ Hid (j = b ∨ ltOf (cfI s zs it) d[j]! d[a]! = false)) (fun vi vj _ => (intOf vj).toNat - (intOf vi).toNat)
  case atStart => exact ⟨a + 1, b, by go_num, rfl, Nat.le_refl _, by omega, Nat.le_refl _, S0, hide (.inl rfl), hide (.inl rfl)⟩
  case round =>
    clear S0
    obtain ⟨i, j, rfl, rfl, hi, hij, hj, T1, HL, HR⟩ := hrel
    by_cases hlt : i < j
    · have hltz : (i : Int) < (j : Int) := by omega
      obtain ⟨h, hh⟩ : ∃ h : Nat, ((i : Int) + (j : Int)) / 2 = (h : Int) := ⟨(i + j) / 2, by omega⟩
      have hih : i ≤ h := by omega
      have hhj : h < j := by omega
      have T1z : d.size = d.size := rfl
      cases hlv : ltOf (cfI s zs it) d[h]! d[a]! with
      | true =>
        have eqi : ((h : Int)).toNat = h := by omega
        have pqi : (0 : Int) ≤ (h : Int) := by omega
        have bqi : (h : Int) < (d.size : Int) := by omega
        have rqi : IntKind.i64.wrap ((h : Int)) = (h : Int) := by rw [IntKind.wrap_i64]; omega
        have eqj : ((a : Int)).toNat = a := by omega
        have pqj : (0 : Int) ≤ (a : Int) := by omega
        have bqj : (a : Int) < (d.size : Int) := by omega
        have rqj : IntKind.i64.wrap ((a : Int)) = (a : Int) := by rw [IntKind.wrap_i64]; omega
        obtain ⟨xq, hxq⟩ : ∃ x, x = d[h]! := ⟨_, rfl⟩
        obtain ⟨yq, hyq⟩ : ∃ x, x = d[a]! := ⟨_, rfl⟩
        have lqa0 : ∀ n os, (grow (wr.drewN n) os).cell? ⟨blk, off + h * 2, none⟩ = some (.int .i64 (it xq).1) := fun n os => by rw [hxq]; exact (SWI.cell0 (T1.out.grown n os) R HS.out (i := h) (by have := T1z; omega)).1
        have lqa1 : ∀ n os, (grow (wr.drewN n) os).cell? ⟨blk, off + h * 2 + 1, none⟩ = some (.int .i64 (it xq).2) := fun n os => by rw [hxq]; exact (SWI.cell1 (T1.out.grown n os) R HS.out (i := h) (by have := T1z; omega)).1
        have lqb0 : ∀ n os, (grow (wr.drewN n) os).cell? ⟨blk, off + a * 2, none⟩ = some (.int .i64 (it yq).1) := fun n os => by rw [hyq]; exact (SWI.cell0 (T1.out.grown n os) R HS.out (i := a) (by have := T1z; omega)).1
        have lqb1 : ∀ n os, (grow (wr.drewN n) os).cell? ⟨blk, off + a * 2 + 1, none⟩ = some (.int .i64 (it yq).2) := fun n os => by rw [hyq]; exact (SWI.cell1 (T1.out.grown n os) R HS.out (i := a) (by have := T1z; omega)).1
        have hcq := SWI.cmp T1.out R C xq yq
        have hdq : decide (cfI s zs it xq yq < 0) = true := by rw [hxq, hyq]; exact hlv
        have hvq : cfI s zs it xq yq < 0 := of_decide_eq_true hdq
        have SG : Hid (∀ n os, SWK (encI it) 2 w0 blk off d (grow (wr.drewN n) os)) := hide fun n os => T1.out.grown n os
        obtain ⟨cvq, hcvq⟩ : ∃ z, z = cfI s zs it xq yq := ⟨_, rfl⟩
        rw [← hcvq] at hcq hdq hvq
        clear hxq hyq hcvq
        go_wp2_with fail
        go_quiet_grown (first | (go_at_call 26; refine Calls.grown_of (hcq _ _)))
        have S2 : Hid (SWK (encI it) 2 w0 blk off d (grow (wr.drewN nq) osq)) := hide (SG.out nq osq)
        clear lqa0 lqa1 lqb0 lqb1 hcq SG
        generalize grow (wr.drewN nq) osq = w2 at S2 ⊢
        clear nq osq
        go_wp2
        go_roundw
        case rel => exact ⟨h + 1, j, by go_num, rfl, by omega, by omega, hj, S2, hide (.inr (by simpa using hlv)), HR⟩
        case measure => simp [intOf]; omega
      | false =>
        have eqi : ((h : Int)).toNat = h := by omega
        have pqi : (0 : Int) ≤ (h : Int) := by omega
        have bqi : (h : Int) < (d.size : Int) := by omega
        have rqi : IntKind.i64.wrap ((h : Int)) = (h : Int) := by rw [IntKind.wrap_i64]; omega
        have eqj : ((a : Int)).toNat = a := by omega
        have pqj : (0 : Int) ≤ (a : Int) := by omega
        have bqj : (a : Int) < (d.size : Int) := by omega
        have rqj : IntKind.i64.wrap ((a : Int)) = (a : Int) := by rw [IntKind.wrap_i64]; omega
        obtain ⟨xq, hxq⟩ : ∃ x, x = d[h]! := ⟨_, rfl⟩
        obtain ⟨yq, hyq⟩ : ∃ x, x = d[a]! := ⟨_, rfl⟩
        have lqa0 : ∀ n os, (grow (wr.drewN n) os).cell? ⟨blk, off + h * 2, none⟩ = some (.int .i64 (it xq).1) := fun n os => by rw [hxq]; exact (SWI.cell0 (T1.out.grown n os) R HS.out (i := h) (by have := T1z; omega)).1
        have lqa1 : ∀ n os, (grow (wr.drewN n) os).cell? ⟨blk, off + h * 2 + 1, none⟩ = some (.int .i64 (it xq).2) := fun n os => by rw [hxq]; exact (SWI.cell1 (T1.out.grown n os) R HS.out (i := h) (by have := T1z; omega)).1
        have lqb0 : ∀ n os, (grow (wr.drewN n) os).cell? ⟨blk, off + a * 2, none⟩ = some (.int .i64 (it yq).1) := fun n os => by rw [hyq]; exact (SWI.cell0 (T1.out.grown n os) R HS.out (i := a) (by have := T1z; omega)).1
        have lqb1 : ∀ n os, (grow (wr.drewN n) os).cell? ⟨blk, off + a * 2 + 1, none⟩ = some (.int .i64 (it yq).2) := fun n os => by rw [hyq]; exact (SWI.cell1 (T1.out.grown n os) R HS.out (i := a) (by have := T1z; omega)).1
        have hcq := SWI.cmp T1.out R C xq yq
        have hdq : decide (cfI s zs it xq yq < 0) = false := by rw [hxq, hyq]; exact hlv
        have hvq : ¬ cfI s zs it xq yq < 0 := of_decide_eq_false hdq
        have SG : Hid (∀ n os, SWK (encI it) 2 w0 blk off d (grow (wr.drewN n) os)) := hide fun n os => T1.out.grown n os
        obtain ⟨cvq, hcvq⟩ : ∃ z, z = cfI s zs it xq yq := ⟨_, rfl⟩
        rw [← hcvq] at hcq hdq hvq
        clear hxq hyq hcvq
        go_wp2_with fail
        go_quiet_grown (first | (go_at_call 26; refine Calls.grown_of (hcq _ _)))
        have S2 : Hid (SWK (encI it) 2 w0 blk off d (grow (wr.drewN nq) osq)) := hide (SG.out nq osq)
        clear lqa0 lqa1 lqb0 lqb1 hcq SG
        generalize grow (wr.drewN nq) osq = w2 at S2 ⊢
        clear nq osq
        go_wp2
        go_roundw
        case rel => exact ⟨i, h, rfl, by go_num, hi, hih, by omega, S2, HL, hide (.inr hlv)⟩
        case measure => simp [intOf]; omega
    · have hltz : ¬ (i : Int) < (j : Int) := by omega
      obtain rfl : i = j := by omega
      obtain ⟨wR, hwR⟩ : ∃ w0 : World, w0 = wr := ⟨_, rfl⟩
      rw [← hwR] at T1 ⊢
      clear hwR
      go_wp2
      go_loopw [13] (fun vk wr => ∃ (k : Nat) (dk : Array α), vk = .int .i64 k ∧ a ≤ k ∧ k + 1 ≤ i ∧ Hid (SWK (encI it) 2 w0 blk off dk wr) ∧ Hid (MvUp a k d dk) ∧ Hid (PermIn a b d dk)) (fun vk _ => i - (intOf vk).toNat)
      case atStart => exact ⟨a, d, rfl, Nat.le_refl _, by omega, T1, hide (MvUp.refl a d), hide (permIn_refl d a b)⟩
      case round =>
        clear T1
        obtain ⟨k, dk, rfl, hak, hki, U1, hmv, hpm⟩ := hrel
        have U1z : dk.size = d.size := hmv.out.1
        by_cases hlt2 : k + 1 < i
        · have hltz2 : (k : Int) < (i : Int) - 1 := by omega
          have esi : ((k : Int)).toNat = k := by omega
          have psi : (0 : Int) ≤ (k : Int) := by omega
          have bsi : (k : Int) < (d.size : Int) := by omega
          have rsi : IntKind.i64.wrap ((k : Int)) = (k : Int) := by rw [IntKind.wrap_i64]; omega
          have esj : ((k : Int) + 1).toNat = k + 1 := by omega
          have psj : (0 : Int) ≤ (k : Int) + 1 := by omega
          have bsj : (k : Int) + 1 < (d.size : Int) := by omega
          have rsj : IntKind.i64.wrap ((k : Int) + 1) = (k : Int) + 1 := by rw [IntKind.wrap_i64]; omega
          have S3 : Hid _ := hide (SWI.swapped U1.out R (k) (k + 1) (by have := U1z; omega) (by have := U1z; omega))
          obtain ⟨cs1, fs1⟩ := SWI.cell0 U1.out R (hmv.out.1.trans HS.out) (i := k) (by have := U1z; omega)
          obtain ⟨cs1b, fs1b⟩ := SWI.cell1 U1.out R (hmv.out.1.trans HS.out) (i := k) (by have := U1z; omega)
          obtain ⟨cs3, fs3⟩ := SWI.cell0 U1.out R (hmv.out.1.trans HS.out) (i := k + 1) (by have := U1z; omega)
          obtain ⟨cs3b, fs3b⟩ := SWI.cell1 U1.out R (hmv.out.1.trans HS.out) (i := k + 1) (by have := U1z; omega)
          go_wp2_with fail
          go_big_region_o
          clear cs1 cs1b cs3 cs3b fs1 fs1b fs3 fs3b
          generalize World.drew _ = w3 at S3 ⊢
          go_wp2
          go_roundw
          case rel => exact ⟨k + 1, swp dk k (k + 1), by go_num, by omega, by omega, S3, hide (hmv.out.step hak (by omega)), hide (permIn_trans _ _ _ _ _ hpm.out (swp_permIn dk a b k (k + 1) (by omega) (by omega) (by omega) (by omega) (by omega)))⟩
          case measure => simp [intOf]; omega
        · have hltz2 : ¬ (k : Int) < (i : Int) - 1 := by omega
          have hk : k = i - 1 := by omega
          go_wp2
          refine bodyPost_ret (results_none rfl _ _ _) rfl ?_
          exact ⟨rfl, dk, U1.out, mrg_up hi hj HL.out HR.out hpm.out (by rw [← hk]; exact hmv.out)⟩
end Go.Proofs.Ytiocgmeonfanmaa
