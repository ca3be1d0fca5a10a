/-
  slices.insertionSortCmpFunc at items, with a method's value for the comparison.
-/
import Derived.Test.YtiocgmeonfanmaaStB
import Derived.Sort.WalkA
namespace Go.Proofs.Ytiocgmeonfanmaa
open Go.RowKit Go.Sort Go.Shelf
set_option linter.unusedVariables false
set_option linter.unusedSimpArgs false
variable {α : Type} [Inhabited α]

set_option maxHeartbeats 4000000 in
set_option maxRecDepth 1000000 in
theorem insertionI (it : α → Int × Int) (s : Int) (A : Option Addr) (l c B : Nat) (zs : List Int) (blk off cap a b : Nat) (d0 d : Array α) (w0 w : World) (R : RowK (encI it) 2 w0 blk off d0) (C : CmpB s A l c B zs w0 blk) (hs : d.size = d0.size) (S : SWK (encI it) 2 w0 blk off d w) (hab : a ≤ b) (hb : b ≤ d.size) (hsz : d.size < 4611686018427387904) :
    Calls Try.prog 45 #[.slice (some ⟨blk, off, none⟩) d.size cap, .int .i64 a, .int .i64 b, .func (.func 26) #[.agg #[.int .i64 s, .slice A l c]] #[]] w fun e w' => e = .returned (.tuple #[]) ∧ SWK (encI it) 2 w0 blk off (insertionSort (ltOf (cfI s zs it)) d a b) w' := by
  have mixed := mixedI
  have eg := egI
  have HS := hide hs
  clear hs
  have S0 : Hid (SWK (encI it) 2 w0 blk off d w) := S
  clear S
  go_enter Try.func45, Try.ntmps45
  go_wp2
  go_loopw [8] (fun vi wr => ∃ (i : Nat) (dk : Array α), vi = .int .i64 i ∧ a < i ∧ i ≤ b + 1 ∧ Hid (SWK (encI it) 2 w0 blk off dk wr) ∧ Hid (dk.size = d.size) ∧ Hid (insOuter (ltOf (cfI s zs it)) a b i dk = insOuter (ltOf (cfI s zs it)) a b (a + 1) d)) (fun vi _ => b + 1 - (intOf vi).toNat)
  case atStart => exact ⟨a + 1, d, by go_num, by omega, by omega, S0, hide rfl, hide rfl⟩
  case round =>
    clear S0
    obtain ⟨i, dk, rfl, hai, hib, S1, hds, HO⟩ := hrel
    by_cases hlt : i < b
    · have hltz : (i : Int) < (b : Int) := by omega
      obtain ⟨wR, hwR⟩ : ∃ w0 : World, w0 = wr := ⟨_, rfl⟩
      rw [← hwR] at S1 ⊢
      clear hwR
      go_wp2
      go_loopw [9] (fun vj wr => ∃ (j : Nat) (dj : Array α), vj = .int .i64 j ∧ a ≤ j ∧ j ≤ i ∧ Hid (SWK (encI it) 2 w0 blk off dj wr) ∧ Hid (dj.size = d.size) ∧ Hid (insInner (ltOf (cfI s zs it)) a j dj = insInner (ltOf (cfI s zs it)) a i dk)) (fun vj _ => (intOf vj).toNat)
      case atStart => exact ⟨i, dk, rfl, by omega, Nat.le_refl _, S1, hds, hide rfl⟩
      case round =>
        clear S1
        obtain ⟨j, dj, rfl, haj, hji, T1, hdj, HI⟩ := hrel
        have out : (j ≤ a ∨ ltOf (cfI s zs it) dj[j]! dj[j - 1]! = false) → Hid (insOuter (ltOf (cfI s zs it)) a b (i + 1) dj = insOuter (ltOf (cfI s zs it)) a b (a + 1) d) := fun hh => by
          show _ = _
          rw [← HO.out, insOuter_go _ _ _ _ _ hlt, ← HI.out, insInner_stop _ _ _ _ hh]
        have OUT := hide out
        clear out
        by_cases hja : a < j
        · have hjaz : (a : Int) < (j : Int) := by omega
          obtain ⟨jp, rfl⟩ : ∃ jp, j = jp + 1 := ⟨j - 1, by omega⟩
          have hjaz' : (a : Int) < (jp : Int) + 1 := by omega
          have hwp : IntKind.i64.wrap (jp : Int) = (jp : Int) := by rw [IntKind.wrap_i64]; omega
          have T1z : dj.size = d.size := hdj.out
          have HT1z := hide T1z
          clear T1z
          cases hlv : ltOf (cfI s zs it) dj[jp + 1]! dj[jp]! with
          | true =>
            have T1z := HT1z.out
            have eqi : ((jp : Int) + 1).toNat = jp + 1 := by omega
            have pqi : (0 : Int) ≤ (jp : Int) + 1 := by omega
            have bqi : (jp : Int) + 1 < (d.size : Int) := by omega
            have rqi : IntKind.i64.wrap ((jp : Int) + 1) = (jp : Int) + 1 := by rw [IntKind.wrap_i64]; omega
            have eqj : ((jp : Int)).toNat = jp := by omega
            have pqj : (0 : Int) ≤ (jp : Int) := by omega
            have bqj : (jp : Int) < (d.size : Int) := by omega
            have rqj : IntKind.i64.wrap ((jp : Int)) = (jp : Int) := by rw [IntKind.wrap_i64]; omega
            obtain ⟨xq, hxq⟩ : ∃ x, x = dj[jp + 1]! := ⟨_, rfl⟩
            obtain ⟨yq, hyq⟩ : ∃ x, x = dj[jp]! := ⟨_, rfl⟩
            have lqa0 : ∀ n os, (grow (wr.drewN n) os).cell? ⟨blk, off + (jp + 1) * 2, none⟩ = some (.int .i64 (it xq).1) := fun n os => by rw [hxq]; exact (SWI.cell0 (T1.out.grown n os) R (HT1z.out.trans HS.out) (i := jp + 1) (by have := T1z; omega)).1
            have lqa1 : ∀ n os, (grow (wr.drewN n) os).cell? ⟨blk, off + (jp + 1) * 2 + 1, none⟩ = some (.int .i64 (it xq).2) := fun n os => by rw [hxq]; exact (SWI.cell1 (T1.out.grown n os) R (HT1z.out.trans HS.out) (i := jp + 1) (by have := T1z; omega)).1
            have lqb0 : ∀ n os, (grow (wr.drewN n) os).cell? ⟨blk, off + jp * 2, none⟩ = some (.int .i64 (it yq).1) := fun n os => by rw [hyq]; exact (SWI.cell0 (T1.out.grown n os) R (HT1z.out.trans HS.out) (i := jp) (by have := T1z; omega)).1
            have lqb1 : ∀ n os, (grow (wr.drewN n) os).cell? ⟨blk, off + jp * 2 + 1, none⟩ = some (.int .i64 (it yq).2) := fun n os => by rw [hyq]; exact (SWI.cell1 (T1.out.grown n os) R (HT1z.out.trans HS.out) (i := jp) (by have := T1z; omega)).1
            have hcq := SWI.cmp T1.out R C xq yq
            have hdq : decide (cfI s zs it xq yq < 0) = true := by rw [hxq, hyq]; exact hlv
            have hvq : cfI s zs it xq yq < 0 := of_decide_eq_true hdq
            have SG : Hid (∀ n os, SWK (encI it) 2 w0 blk off dj (grow (wr.drewN n) os)) := hide fun n os => T1.out.grown n os
            obtain ⟨cvq, hcvq⟩ : ∃ z, z = cfI s zs it xq yq := ⟨_, rfl⟩
            rw [← hcvq] at hcq hdq hvq
            clear hxq hyq hcvq
            go_wp2_with fail
            go_quiet_grown (first | (go_at_call 26; refine Calls.grown_of (hcq _ _)))
            have S2 : Hid (SWK (encI it) 2 w0 blk off dj (grow (wr.drewN nq) osq)) := hide (SG.out nq osq)
            clear lqa0 lqa1 lqb0 lqb1 hcq SG
            generalize grow (wr.drewN nq) osq = w2 at S2 ⊢
            clear nq osq
            have S2z : dj.size = d.size := HT1z.out
            have S3 : Hid _ := hide (SWI.swapped S2.out R (jp + 1) (jp) (by have := S2z; omega) (by have := S2z; omega))
            obtain ⟨cs1, fs1⟩ := SWI.cell0 S2.out R (HT1z.out.trans HS.out) (i := jp + 1) (by have := S2z; omega)
            obtain ⟨cs1b, fs1b⟩ := SWI.cell1 S2.out R (HT1z.out.trans HS.out) (i := jp + 1) (by have := S2z; omega)
            obtain ⟨cs3, fs3⟩ := SWI.cell0 S2.out R (HT1z.out.trans HS.out) (i := jp) (by have := S2z; omega)
            obtain ⟨cs3b, fs3b⟩ := SWI.cell1 S2.out R (HT1z.out.trans HS.out) (i := jp) (by have := S2z; omega)
            go_wp2_with fail
            go_big_region_o
            clear cs1 cs1b cs3 cs3b fs1 fs1b fs3 fs3b
            generalize World.drew _ = w3 at S3 ⊢
            go_wp2
            go_roundw
            case rel => exact ⟨jp, swp dj (jp + 1) jp, by go_num, by omega, by omega, S3, hide (by rw [size_swp]; exact HT1z.out), hide (by have := insInner_go (ltOf (cfI s zs it)) a (jp + 1) dj hja (by simpa using hlv); rw [Nat.add_sub_cancel] at this; rw [← this]; exact HI.out)⟩
            case measure => first | (simp [intOf]; omega) | simp [intOf]
          | false =>
            have T1z := HT1z.out
            have eqi : ((jp : Int) + 1).toNat = jp + 1 := by omega
            have pqi : (0 : Int) ≤ (jp : Int) + 1 := by omega
            have bqi : (jp : Int) + 1 < (d.size : Int) := by omega
            have rqi : IntKind.i64.wrap ((jp : Int) + 1) = (jp : Int) + 1 := by rw [IntKind.wrap_i64]; omega
            have eqj : ((jp : Int)).toNat = jp := by omega
            have pqj : (0 : Int) ≤ (jp : Int) := by omega
            have bqj : (jp : Int) < (d.size : Int) := by omega
            have rqj : IntKind.i64.wrap ((jp : Int)) = (jp : Int) := by rw [IntKind.wrap_i64]; omega
            obtain ⟨xq, hxq⟩ : ∃ x, x = dj[jp + 1]! := ⟨_, rfl⟩
            obtain ⟨yq, hyq⟩ : ∃ x, x = dj[jp]! := ⟨_, rfl⟩
            have lqa0 : ∀ n os, (grow (wr.drewN n) os).cell? ⟨blk, off + (jp + 1) * 2, none⟩ = some (.int .i64 (it xq).1) := fun n os => by rw [hxq]; exact (SWI.cell0 (T1.out.grown n os) R (HT1z.out.trans HS.out) (i := jp + 1) (by have := T1z; omega)).1
            have lqa1 : ∀ n os, (grow (wr.drewN n) os).cell? ⟨blk, off + (jp + 1) * 2 + 1, none⟩ = some (.int .i64 (it xq).2) := fun n os => by rw [hxq]; exact (SWI.cell1 (T1.out.grown n os) R (HT1z.out.trans HS.out) (i := jp + 1) (by have := T1z; omega)).1
            have lqb0 : ∀ n os, (grow (wr.drewN n) os).cell? ⟨blk, off + jp * 2, none⟩ = some (.int .i64 (it yq).1) := fun n os => by rw [hyq]; exact (SWI.cell0 (T1.out.grown n os) R (HT1z.out.trans HS.out) (i := jp) (by have := T1z; omega)).1
            have lqb1 : ∀ n os, (grow (wr.drewN n) os).cell? ⟨blk, off + jp * 2 + 1, none⟩ = some (.int .i64 (it yq).2) := fun n os => by rw [hyq]; exact (SWI.cell1 (T1.out.grown n os) R (HT1z.out.trans HS.out) (i := jp) (by have := T1z; omega)).1
            have hcq := SWI.cmp T1.out R C xq yq
            have hdq : decide (cfI s zs it xq yq < 0) = false := by rw [hxq, hyq]; exact hlv
            have hvq : ¬ cfI s zs it xq yq < 0 := of_decide_eq_false hdq
            have SG : Hid (∀ n os, SWK (encI it) 2 w0 blk off dj (grow (wr.drewN n) os)) := hide fun n os => T1.out.grown n os
            obtain ⟨cvq, hcvq⟩ : ∃ z, z = cfI s zs it xq yq := ⟨_, rfl⟩
            rw [← hcvq] at hcq hdq hvq
            clear hxq hyq hcvq
            go_wp2_with fail
            go_quiet_grown (first | (go_at_call 26; refine Calls.grown_of (hcq _ _)))
            have S2 : Hid (SWK (encI it) 2 w0 blk off dj (grow (wr.drewN nq) osq)) := hide (SG.out nq osq)
            clear lqa0 lqa1 lqb0 lqb1 hcq SG
            generalize grow (wr.drewN nq) osq = w2 at S2 ⊢
            clear nq osq
            have HO2 := OUT.out (.inr (by simpa using hlv))
            go_wp2
            go_roundw
            case rel => exact ⟨i + 1, dj, by go_num, by omega, by omega, S2, HT1z, HO2⟩
            case measure => simp [intOf]; omega
        · have hjaz : ¬ (a : Int) < (j : Int) := by omega
          have hdf : decide ((j : Int) > (a : Int)) = false := decide_eq_false (by omega)
          have HO2 := OUT.out (.inl (by omega))
          have S2 : Hid (SWK (encI it) 2 w0 blk off dj wr.drew) := hide T1.out.drew
          go_wp2_with fail
          go_big_region_o
          all_goals (generalize wr.drew = w2 at S2 ⊢)
          go_wp2
          go_roundw
          case rel => exact ⟨i + 1, dj, by go_num, by omega, by omega, S2, hdj, HO2⟩
          case measure => simp [intOf]; omega
    · have hltz : ¬ (i : Int) < (b : Int) := by omega
      have hend := HO.out
      rw [insOuter, if_neg hlt] at hend
      go_wp2
      go_end0
      exact ⟨rfl, by rw [insertionSort, ← hend]; exact S1.out⟩
end Go.Proofs.Ytiocgmeonfanmaa
