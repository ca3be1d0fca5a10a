/-
  slices.reverseRangeCmpFunc, order2CmpFunc, medianCmpFunc, medianAdjacentCmpFunc at items, with a method's value for the comparison: each to its plain twin.
-/
import Derived.Test.YtiocgmeonfanmaaStB
import Derived.Sort.WalkB2
import Derived.Sort.WalkB12
namespace Go.Proofs.Ytiocgmeonfanmaa
open Go.RowKit Go.Sort Go.Shelf
set_option linter.unusedVariables false
set_option linter.unusedSimpArgs false
variable {α : Type} [Inhabited α]

set_option maxHeartbeats 1000000 in
set_option maxRecDepth 1000000 in
theorem reverseI (it : α → Int × Int) (cv : Value) (blk off cap a b : Nat) (d0 d : Array α) (w0 w : World) (R : RowK (encI it) 2 w0 blk off d0) (hs : d.size = d0.size) (S : SWK (encI it) 2 w0 blk off d w) (hab : a < b) (hb : b ≤ d.size) (hsz : d.size < 4611686018427387904) :
    Calls Try.prog 49 #[.slice (some ⟨blk, off, none⟩) d.size cap, .int .i64 a, .int .i64 b, cv] w fun e w' => e = .returned (.tuple #[]) ∧ SWK (encI it) 2 w0 blk off (reverseRange d a b) w' := by
  have mixed := mixedI
  have HS := hide hs
  clear hs
  have S0 : Hid (SWK (encI it) 2 w0 blk off d w) := S
  clear S
  obtain ⟨bp, rfl⟩ : ∃ bp, b = bp + 1 := ⟨b - 1, by omega⟩
  have hcast : ((bp + 1 : Nat) : Int) = (bp : Int) + 1 := by omega
  rw [hcast]
  go_enter Try.func49, Try.ntmps49
  go_wp2
  go_loopw [8, 9] (fun vi vj wr => ∃ (i j : Nat) (dk : Array α), vi = .int .i64 i ∧ vj = .int .i64 j ∧ i ≤ j + 1 ∧ j < d.size ∧ Hid (SWK (encI it) 2 w0 blk off dk wr) ∧ Hid (dk.size = d.size) ∧ Hid (reverseLoop i j dk = reverseLoop a bp d)) (fun vi vj _ => (intOf vj).toNat + 1 - (intOf vi).toNat)
  case atStart => exact ⟨a, bp, d, rfl, by go_num, by omega, by omega, S0, hide rfl, hide rfl⟩
  case round =>
    clear S0
    obtain ⟨i, j, dk, rfl, rfl, hij, hj, S1, hds, HE⟩ := hrel
    by_cases hlt : i < j
    · have hltz : (i : Int) < (j : Int) := by omega
      have S1z : dk.size = d.size := hds.out
      have esi : ((i : Int)).toNat = i := by omega
      have psi : (0 : Int) ≤ (i : Int) := by omega
      have bsi : (i : Int) < (d.size : Int) := by omega
      have rsi : IntKind.i64.wrap ((i : Int)) = (i : Int) := by rw [IntKind.wrap_i64]; omega
      have esj : ((j : Int)).toNat = j := by omega
      have psj : (0 : Int) ≤ (j : Int) := by omega
      have bsj : (j : Int) < (d.size : Int) := by omega
      have rsj : IntKind.i64.wrap ((j : Int)) = (j : Int) := by rw [IntKind.wrap_i64]; omega
      have S3 : Hid _ := hide (SWI.swapped S1.out R (i) (j) (by have := S1z; omega) (by have := S1z; omega))
      obtain ⟨cs1, fs1⟩ := SWI.cell0 S1.out R (hds.out.trans HS.out) (i := i) (by have := S1z; omega)
      obtain ⟨cs1b, fs1b⟩ := SWI.cell1 S1.out R (hds.out.trans HS.out) (i := i) (by have := S1z; omega)
      obtain ⟨cs3, fs3⟩ := SWI.cell0 S1.out R (hds.out.trans HS.out) (i := j) (by have := S1z; omega)
      obtain ⟨cs3b, fs3b⟩ := SWI.cell1 S1.out R (hds.out.trans HS.out) (i := j) (by have := S1z; omega)
      obtain ⟨xs1, hxs1⟩ : ∃ x, x = dk[i]! := ⟨_, rfl⟩
      obtain ⟨xs3, hxs3⟩ : ∃ x, x = dk[j]! := ⟨_, rfl⟩
      rw [← hxs1] at S3 cs1 cs1b
      rw [← hxs3] at S3 cs3 cs3b
      clear hxs1 hxs3
      go_wp2_with fail
      go_big_region_o
      clear cs1 cs1b cs3 cs3b fs1 fs1b fs3 fs3b
      generalize World.drew _ = w3 at S3 ⊢
      go_wp2
      go_roundw
      case rel => exact ⟨i + 1, j - 1, swp dk i j, by go_num, by go_num, by omega, by omega, S3, hide (by rw [size_swp]; exact hds.out), hide (by rw [← HE.out]; conv => rhs; rw [reverseLoop, if_pos hlt])⟩
      case measure => simp [intOf]; omega
    · have hltz : ¬ (i : Int) < (j : Int) := by omega
      have hend := HE.out
      rw [reverseLoop, if_neg hlt] at hend
      go_wp2
      go_end0
      exact ⟨rfl, by rw [reverseRange, Nat.add_sub_cancel, ← hend]; exact S1.out⟩

set_option maxHeartbeats 1000000 in
set_option maxRecDepth 1000000 in
theorem order2I (it : α → Int × Int) (s : Int) (A : Option Addr) (l c B : Nat) (zs : List Int) (blk off cap a b cc sw : Nat) (d0 d : Array α) (w0 w : World) (R : RowK (encI it) 2 w0 blk off d0) (C : CmpB s A l c B zs w0 blk) (hs : d.size = d0.size) (K : CntK (encI it) 2 w0 blk off d cc sw w) (ha : a < d.size) (hb : b < d.size) (hsz : d.size < 4611686018427387904) (hsw : sw < 4611686018427387904) :
    Calls Try.prog 75 #[.slice (some ⟨blk, off, none⟩) d.size cap, .int .i64 a, .int .i64 b, .pointer (some ⟨cc, 0, none⟩), .func (.func 26) #[.agg #[.int .i64 s, .slice A l c]] #[]] w fun e w' => e = .returned (.tuple #[.int .i64 (order2 (ltOf (cfI s zs it)) d a b sw).1, .int .i64 (order2 (ltOf (cfI s zs it)) d a b sw).2.1]) ∧ CntK (encI it) 2 w0 blk off d cc (order2 (ltOf (cfI s zs it)) d a b sw).2.2 w' := by
  have mixed := mixedI
  have eg := egI
  have HS := hide hs
  clear hs
  have K1 : Hid (CntK (encI it) 2 w0 blk off d cc sw w) := K
  have T1 : Hid (SWK (encI it) 2 w0 blk off d w) := K.1
  clear K
  have T1z : d.size = d.size := rfl
  cases hlv : ltOf (cfI s zs it) d[b]! d[a]! with
  | true =>
    have e2 : order2 (ltOf (cfI s zs it)) d a b sw = (b, a, sw + 1) := by simp [order2, hlv]
    rw [e2]
    clear e2
    go_enter Try.func75, Try.ntmps75
    have KG : Hid (∀ n os, CntK (encI it) 2 w0 blk off d cc sw (grow (w.drewN n) os)) := hide fun n os => K1.out.grown n os
    have eqi : ((b : Int)).toNat = b := by omega
    have pqi : (0 : Int) ≤ (b : Int) := by omega
    have bqi : (b : Int) < (d.size : Int) := by omega
    have rqi : IntKind.i64.wrap ((b : Int)) = (b : Int) := by rw [IntKind.wrap_i64]; omega
    have eqj : ((a : Int)).toNat = a := by omega
    have pqj : (0 : Int) ≤ (a : Int) := by omega
    have bqj : (a : Int) < (d.size : Int) := by omega
    have rqj : IntKind.i64.wrap ((a : Int)) = (a : Int) := by rw [IntKind.wrap_i64]; omega
    obtain ⟨xq, hxq⟩ : ∃ x, x = d[b]! := ⟨_, rfl⟩
    obtain ⟨yq, hyq⟩ : ∃ x, x = d[a]! := ⟨_, rfl⟩
    have lqa0 : ∀ n os, (grow (w.drewN n) os).cell? ⟨blk, off + b * 2, none⟩ = some (.int .i64 (it xq).1) := fun n os => by rw [hxq]; exact (SWI.cell0 (T1.out.grown n os) R HS.out (i := b) (by have := T1z; omega)).1
    have lqa1 : ∀ n os, (grow (w.drewN n) os).cell? ⟨blk, off + b * 2 + 1, none⟩ = some (.int .i64 (it xq).2) := fun n os => by rw [hxq]; exact (SWI.cell1 (T1.out.grown n os) R HS.out (i := b) (by have := T1z; omega)).1
    have lqb0 : ∀ n os, (grow (w.drewN n) os).cell? ⟨blk, off + a * 2, none⟩ = some (.int .i64 (it yq).1) := fun n os => by rw [hyq]; exact (SWI.cell0 (T1.out.grown n os) R HS.out (i := a) (by have := T1z; omega)).1
    have lqb1 : ∀ n os, (grow (w.drewN n) os).cell? ⟨blk, off + a * 2 + 1, none⟩ = some (.int .i64 (it yq).2) := fun n os => by rw [hyq]; exact (SWI.cell1 (T1.out.grown n os) R HS.out (i := a) (by have := T1z; omega)).1
    have hcq := SWI.cmp T1.out R C xq yq
    have hdq : decide (cfI s zs it xq yq < 0) = true := by rw [hxq, hyq]; exact hlv
    have hvq : cfI s zs it xq yq < 0 := of_decide_eq_true hdq
    have SG : Hid (∀ n os, SWK (encI it) 2 w0 blk off d (grow (w.drewN n) os)) := hide fun n os => T1.out.grown n os
    obtain ⟨cvq, hcvq⟩ : ∃ z, z = cfI s zs it xq yq := ⟨_, rfl⟩
    rw [← hcvq] at hcq hdq hvq
    clear hxq hyq hcvq
    go_wp2_with fail
    go_quiet_grown (first | (go_at_call 26; refine Calls.grown_of (hcq _ _)))
    have S2 : Hid (SWK (encI it) 2 w0 blk off d (grow (w.drewN nq) osq)) := hide (SG.out nq osq)
    clear lqa0 lqa1 lqb0 lqb1 hcq SG
    have K2 := hide (KG.out nq osq)
    clear KG
    generalize grow (w.drewN nq) osq = w2 at S2 K2 ⊢
    clear nq osq
    obtain ⟨_, kc, kf, _, _⟩ := K2.out
    go_wp2
    go_ret2
    exact ⟨rfl, by have := K2.out.bump (sw + 1); simpa using this⟩
  | false =>
    have e2 : order2 (ltOf (cfI s zs it)) d a b sw = (a, b, sw) := by simp [order2, hlv]
    rw [e2]
    clear e2
    go_enter Try.func75, Try.ntmps75
    have KG : Hid (∀ n os, CntK (encI it) 2 w0 blk off d cc sw (grow (w.drewN n) os)) := hide fun n os => K1.out.grown n os
    have eqi : ((b : Int)).toNat = b := by omega
    have pqi : (0 : Int) ≤ (b : Int) := by omega
    have bqi : (b : Int) < (d.size : Int) := by omega
    have rqi : IntKind.i64.wrap ((b : Int)) = (b : Int) := by rw [IntKind.wrap_i64]; omega
    have eqj : ((a : Int)).toNat = a := by omega
    have pqj : (0 : Int) ≤ (a : Int) := by omega
    have bqj : (a : Int) < (d.size : Int) := by omega
    have rqj : IntKind.i64.wrap ((a : Int)) = (a : Int) := by rw [IntKind.wrap_i64]; omega
    obtain ⟨xq, hxq⟩ : ∃ x, x = d[b]! := ⟨_, rfl⟩
    obtain ⟨yq, hyq⟩ : ∃ x, x = d[a]! := ⟨_, rfl⟩
    have lqa0 : ∀ n os, (grow (w.drewN n) os).cell? ⟨blk, off + b * 2, none⟩ = some (.int .i64 (it xq).1) := fun n os => by rw [hxq]; exact (SWI.cell0 (T1.out.grown n os) R HS.out (i := b) (by have := T1z; omega)).1
    have lqa1 : ∀ n os, (grow (w.drewN n) os).cell? ⟨blk, off + b * 2 + 1, none⟩ = some (.int .i64 (it xq).2) := fun n os => by rw [hxq]; exact (SWI.cell1 (T1.out.grown n os) R HS.out (i := b) (by have := T1z; omega)).1
    have lqb0 : ∀ n os, (grow (w.drewN n) os).cell? ⟨blk, off + a * 2, none⟩ = some (.int .i64 (it yq).1) := fun n os => by rw [hyq]; exact (SWI.cell0 (T1.out.grown n os) R HS.out (i := a) (by have := T1z; omega)).1
    have lqb1 : ∀ n os, (grow (w.drewN n) os).cell? ⟨blk, off + a * 2 + 1, none⟩ = some (.int .i64 (it yq).2) := fun n os => by rw [hyq]; exact (SWI.cell1 (T1.out.grown n os) R HS.out (i := a) (by have := T1z; omega)).1
    have hcq := SWI.cmp T1.out R C xq yq
    have hdq : decide (cfI s zs it xq yq < 0) = false := by rw [hxq, hyq]; exact hlv
    have hvq : ¬ cfI s zs it xq yq < 0 := of_decide_eq_false hdq
    have SG : Hid (∀ n os, SWK (encI it) 2 w0 blk off d (grow (w.drewN n) os)) := hide fun n os => T1.out.grown n os
    obtain ⟨cvq, hcvq⟩ : ∃ z, z = cfI s zs it xq yq := ⟨_, rfl⟩
    rw [← hcvq] at hcq hdq hvq
    clear hxq hyq hcvq
    go_wp2_with fail
    go_quiet_grown (first | (go_at_call 26; refine Calls.grown_of (hcq _ _)))
    have S2 : Hid (SWK (encI it) 2 w0 blk off d (grow (w.drewN nq) osq)) := hide (SG.out nq osq)
    clear lqa0 lqa1 lqb0 lqb1 hcq SG
    have K2 := hide (KG.out nq osq)
    clear KG
    generalize grow (w.drewN nq) osq = w2 at S2 K2 ⊢
    clear nq osq
    go_wp2
    go_ret2
    exact ⟨rfl, K2.out⟩
end Go.Proofs.Ytiocgmeonfanmaa
