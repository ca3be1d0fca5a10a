/-
  slices.siftDownCmpFunc at items.
-/
import Derived.Test.YtiocgmeonfanmaaStB
import Derived.Sort.WalkB2
namespace Go.Proofs.Ytiocgmeonfanmaa
open Go.RowKit Go.Sort Go.Shelf
set_option linter.unusedVariables false
set_option linter.unusedSimpArgs false
variable {α : Type} [Inhabited α]

set_option maxHeartbeats 8000000 in
set_option maxRecDepth 1000000 in
theorem siftI (it : α → Int × Int) (s : Int) (A : Option Addr) (l c B : Nat) (zs : List Int) (blk off cap lo hi F : Nat) (d0 d : Array α) (w0 w : World) (R : RowK (encI it) 2 w0 blk off d0) (C : CmpB s A l c B zs w0 blk) (hs : d.size = d0.size) (S : SWK (encI it) 2 w0 blk off d w) (hlo : lo ≤ hi) (hb : F + hi ≤ d.size) (hsz : d.size < 2305843009213693952) :
    Calls Try.prog 65 #[.slice (some ⟨blk, off, none⟩) d.size cap, .int .i64 lo, .int .i64 hi, .int .i64 F, .func (.func 26) #[.agg #[.int .i64 s, .slice A l c]] #[]] w fun e w' => e = .returned (.tuple #[]) ∧ SWK (encI it) 2 w0 blk off (siftDown (ltOf (cfI s zs it)) hi F lo d) w' := by
  have mixed := mixedI
  have eg := egI
  have HS := hide hs
  clear hs
  have S0 : Hid (SWK (encI it) 2 w0 blk off d w) := S
  clear S
  go_enter Try.func65, Try.ntmps65
  go_wp2
  go_loopw [10] (fun vr wr => ∃ (root : Nat) (dk : Array α), vr = .int .i64 root ∧ root ≤ hi ∧ Hid (SWK (encI it) 2 w0 blk off dk wr) ∧ Hid (dk.size = d.size) ∧ Hid (siftDown (ltOf (cfI s zs it)) hi F root dk = siftDown (ltOf (cfI s zs it)) hi F lo d)) (fun vr _ => hi - (intOf vr).toNat)
  case atStart => exact ⟨lo, d, rfl, hlo, S0, hide rfl, hide rfl⟩
  case round =>
    clear S0
    obtain ⟨root, dk, rfl, hroot, S1, hds, HE⟩ := hrel
    obtain ⟨ch, hch⟩ : ∃ ch : Nat, 2 * (root : Int) + 1 = (ch : Int) := ⟨2 * root + 1, by omega⟩
    have HCH : Hid (ch = 2 * root + 1) := hide (by omega)
    have hchb : (ch : Int) < 4611686018427387904 := by omega
    have hchr : root < ch := by omega
    have rch : IntKind.i64.wrap (ch : Int) = (ch : Int) := by rw [IntKind.wrap_i64]; omega
    have rch1 : IntKind.i64.wrap ((ch : Int) + 1) = (ch : Int) + 1 := by rw [IntKind.wrap_i64]; omega
    by_cases h0 : hi ≤ ch
    · have h0z : (hi : Int) ≤ (ch : Int) := by omega
      have HEND : Hid (siftDown (ltOf (cfI s zs it)) hi F root dk = dk) := hide (sd_end _ dk (by have := HCH.out; omega))
      go_wp2
      first | go_end0 | refine bodyPost_ret (results_none rfl _ _ _) rfl ?_
      exact ⟨rfl, by rw [← HE.out, HEND.out]; exact S1.out⟩
    · have h0z : ¬ (hi : Int) ≤ (ch : Int) := by omega
      by_cases h1 : ch + 1 < hi
      · have h1z : (ch : Int) + 1 < (hi : Int) := by omega
        have h1d : decide ((ch : Int) + 1 < (hi : Int)) = true := decide_eq_true h1z
        have S1z : dk.size = d.size := hds.out
        cases hlw : ltOf (cfI s zs it) dk[F + ch]! dk[F + ch + 1]! with
        | true =>
          have hlv := hlw
          have eqi : ((F : Int) + (ch : Int)).toNat = F + ch := by omega
          have pqi : (0 : Int) ≤ (F : Int) + (ch : Int) := by omega
          have bqi : (F : Int) + (ch : Int) < (d.size : Int) := by omega
          have rqi : IntKind.i64.wrap ((F : Int) + (ch : Int)) = (F : Int) + (ch : Int) := by rw [IntKind.wrap_i64]; omega
          have eqj : ((F : Int) + (ch : Int) + 1).toNat = F + ch + 1 := by omega
          have pqj : (0 : Int) ≤ (F : Int) + (ch : Int) + 1 := by omega
          have bqj : (F : Int) + (ch : Int) + 1 < (d.size : Int) := by omega
          have rqj : IntKind.i64.wrap ((F : Int) + (ch : Int) + 1) = (F : Int) + (ch : Int) + 1 := by rw [IntKind.wrap_i64]; omega
          obtain ⟨xq, hxq⟩ : ∃ x, x = dk[F + ch]! := ⟨_, rfl⟩
          obtain ⟨yq, hyq⟩ : ∃ x, x = dk[F + ch + 1]! := ⟨_, rfl⟩
          have lqa0 : ∀ n os, (grow (wr.drewN n) os).cell? ⟨blk, off + (F + ch) * 2, none⟩ = some (.int .i64 (it xq).1) := fun n os => by rw [hxq]; exact (SWI.cell0 (S1.out.grown n os) R (hds.out.trans HS.out) (i := F + ch) (by have := S1z; omega)).1
          have lqa1 : ∀ n os, (grow (wr.drewN n) os).cell? ⟨blk, off + (F + ch) * 2 + 1, none⟩ = some (.int .i64 (it xq).2) := fun n os => by rw [hxq]; exact (SWI.cell1 (S1.out.grown n os) R (hds.out.trans HS.out) (i := F + ch) (by have := S1z; omega)).1
          have lqb0 : ∀ n os, (grow (wr.drewN n) os).cell? ⟨blk, off + (F + ch + 1) * 2, none⟩ = some (.int .i64 (it yq).1) := fun n os => by rw [hyq]; exact (SWI.cell0 (S1.out.grown n os) R (hds.out.trans HS.out) (i := F + ch + 1) (by have := S1z; omega)).1
          have lqb1 : ∀ n os, (grow (wr.drewN n) os).cell? ⟨blk, off + (F + ch + 1) * 2 + 1, none⟩ = some (.int .i64 (it yq).2) := fun n os => by rw [hyq]; exact (SWI.cell1 (S1.out.grown n os) R (hds.out.trans HS.out) (i := F + ch + 1) (by have := S1z; omega)).1
          have hcq := SWI.cmp S1.out R C xq yq
          have hdq : decide (cfI s zs it xq yq < 0) = true := by rw [hxq, hyq]; exact hlv
          have hvq : cfI s zs it xq yq < 0 := of_decide_eq_true hdq
          have SG : Hid (∀ n os, SWK (encI it) 2 w0 blk off dk (grow (wr.drewN n) os)) := hide fun n os => S1.out.grown n os
          obtain ⟨cvq, hcvq⟩ : ∃ z, z = cfI s zs it xq yq := ⟨_, rfl⟩
          rw [← hcvq] at hcq hdq hvq
          clear hxq hyq hcvq
          go_wp2_with fail
          go_quiet_grown (first | (go_at_call 26; refine Calls.grown_of (hcq _ _)))
          have S2 : Hid (SWK (encI it) 2 w0 blk off dk (grow (wr.drewN nq) osq)) := hide (SG.out nq osq)
          clear lqa0 lqa1 lqb0 lqb1 hcq SG
          generalize grow (wr.drewN nq) osq = w2 at S2 ⊢
          clear nq osq
          clear hlv
          have S2z : dk.size = d.size := hds.out
          cases hlv : ltOf (cfI s zs it) dk[F + root]! dk[F + (ch + 1)]! with
          | false =>
            have eri : ((F : Int) + (root : Int)).toNat = F + root := by omega
            have pri : (0 : Int) ≤ (F : Int) + (root : Int) := by omega
            have bri : (F : Int) + (root : Int) < (d.size : Int) := by omega
            have rri : IntKind.i64.wrap ((F : Int) + (root : Int)) = (F : Int) + (root : Int) := by rw [IntKind.wrap_i64]; omega
            have erj : ((F : Int) + ((ch : Int) + 1)).toNat = F + (ch + 1) := by omega
            have prj : (0 : Int) ≤ (F : Int) + ((ch : Int) + 1) := by omega
            have brj : (F : Int) + ((ch : Int) + 1) < (d.size : Int) := by omega
            have rrj : IntKind.i64.wrap ((F : Int) + ((ch : Int) + 1)) = (F : Int) + ((ch : Int) + 1) := by rw [IntKind.wrap_i64]; omega
            obtain ⟨xr, hxr⟩ : ∃ x, x = dk[F + root]! := ⟨_, rfl⟩
            obtain ⟨yr, hyr⟩ : ∃ x, x = dk[F + (ch + 1)]! := ⟨_, rfl⟩
            have lra0 : ∀ n os, (grow (w2.drewN n) os).cell? ⟨blk, off + (F + root) * 2, none⟩ = some (.int .i64 (it xr).1) := fun n os => by rw [hxr]; exact (SWI.cell0 (S2.out.grown n os) R (hds.out.trans HS.out) (i := F + root) (by have := S2z; omega)).1
            have lra1 : ∀ n os, (grow (w2.drewN n) os).cell? ⟨blk, off + (F + root) * 2 + 1, none⟩ = some (.int .i64 (it xr).2) := fun n os => by rw [hxr]; exact (SWI.cell1 (S2.out.grown n os) R (hds.out.trans HS.out) (i := F + root) (by have := S2z; omega)).1
            have lrb0 : ∀ n os, (grow (w2.drewN n) os).cell? ⟨blk, off + (F + (ch + 1)) * 2, none⟩ = some (.int .i64 (it yr).1) := fun n os => by rw [hyr]; exact (SWI.cell0 (S2.out.grown n os) R (hds.out.trans HS.out) (i := F + (ch + 1)) (by have := S2z; omega)).1
            have lrb1 : ∀ n os, (grow (w2.drewN n) os).cell? ⟨blk, off + (F + (ch + 1)) * 2 + 1, none⟩ = some (.int .i64 (it yr).2) := fun n os => by rw [hyr]; exact (SWI.cell1 (S2.out.grown n os) R (hds.out.trans HS.out) (i := F + (ch + 1)) (by have := S2z; omega)).1
            have hcr := SWI.cmp S2.out R C xr yr
            have hdr : decide (cfI s zs it xr yr < 0) = false := by rw [hxr, hyr]; exact hlv
            have hvr : ¬ cfI s zs it xr yr < 0 := of_decide_eq_false hdr
            have SG : Hid (∀ n os, SWK (encI it) 2 w0 blk off dk (grow (w2.drewN n) os)) := hide fun n os => S2.out.grown n os
            obtain ⟨cvr, hcvr⟩ : ∃ z, z = cfI s zs it xr yr := ⟨_, rfl⟩
            rw [← hcvr] at hcr hdr hvr
            clear hxr hyr hcvr
            go_wp2_with fail
            go_quiet_grown (first | (go_at_call 26; refine Calls.grown_of (hcr _ _)))
            have S2 : Hid (SWK (encI it) 2 w0 blk off dk (grow (w2.drewN nq) osq)) := hide (SG.out nq osq)
            clear lra0 lra1 lrb0 lrb1 hcr SG
            generalize grow (w2.drewN nq) osq = w2 at S2 ⊢
            clear nq osq
            have HEND : Hid (siftDown (ltOf (cfI s zs it)) hi F root dk = dk) := hide (by have e := HCH.out; subst e; exact sd_right_stop _ dk (by omega) hlw hlv)
            go_wp2
            refine bodyPost_ret (results_none rfl _ _ _) rfl ?_
            exact ⟨rfl, by rw [← HE.out, HEND.out]; exact S2.out⟩
          | true =>
            have eri : ((F : Int) + (root : Int)).toNat = F + root := by omega
            have pri : (0 : Int) ≤ (F : Int) + (root : Int) := by omega
            have bri : (F : Int) + (root : Int) < (d.size : Int) := by omega
            have rri : IntKind.i64.wrap ((F : Int) + (root : Int)) = (F : Int) + (root : Int) := by rw [IntKind.wrap_i64]; omega
            have erj : ((F : Int) + ((ch : Int) + 1)).toNat = F + (ch + 1) := by omega
            have prj : (0 : Int) ≤ (F : Int) + ((ch : Int) + 1) := by omega
            have brj : (F : Int) + ((ch : Int) + 1) < (d.size : Int) := by omega
            have rrj : IntKind.i64.wrap ((F : Int) + ((ch : Int) + 1)) = (F : Int) + ((ch : Int) + 1) := by rw [IntKind.wrap_i64]; omega
            obtain ⟨xr, hxr⟩ : ∃ x, x = dk[F + root]! := ⟨_, rfl⟩
            obtain ⟨yr, hyr⟩ : ∃ x, x = dk[F + (ch + 1)]! := ⟨_, rfl⟩
            have lra0 : ∀ n os, (grow (w2.drewN n) os).cell? ⟨blk, off + (F + root) * 2, none⟩ = some (.int .i64 (it xr).1) := fun n os => by rw [hxr]; exact (SWI.cell0 (S2.out.grown n os) R (hds.out.trans HS.out) (i := F + root) (by have := S2z; omega)).1
            have lra1 : ∀ n os, (grow (w2.drewN n) os).cell? ⟨blk, off + (F + root) * 2 + 1, none⟩ = some (.int .i64 (it xr).2) := fun n os => by rw [hxr]; exact (SWI.cell1 (S2.out.grown n os) R (hds.out.trans HS.out) (i := F + root) (by have := S2z; omega)).1
            have lrb0 : ∀ n os, (grow (w2.drewN n) os).cell? ⟨blk, off + (F + (ch + 1)) * 2, none⟩ = some (.int .i64 (it yr).1) := fun n os => by rw [hyr]; exact (SWI.cell0 (S2.out.grown n os) R (hds.out.trans HS.out) (i := F + (ch + 1)) (by have := S2z; omega)).1
            have lrb1 : ∀ n os, (grow (w2.drewN n) os).cell? ⟨blk, off + (F + (ch + 1)) * 2 + 1, none⟩ = some (.int .i64 (it yr).2) := fun n os => by rw [hyr]; exact (SWI.cell1 (S2.out.grown n os) R (hds.out.trans HS.out) (i := F + (ch + 1)) (by have := S2z; omega)).1
            have hcr := SWI.cmp S2.out R C xr yr
            have hdr : decide (cfI s zs it xr yr < 0) = true := by rw [hxr, hyr]; exact hlv
            have hvr : cfI s zs it xr yr < 0 := of_decide_eq_true hdr
            have SG : Hid (∀ n os, SWK (encI it) 2 w0 blk off dk (grow (w2.drewN n) os)) := hide fun n os => S2.out.grown n os
            obtain ⟨cvr, hcvr⟩ : ∃ z, z = cfI s zs it xr yr := ⟨_, rfl⟩
            rw [← hcvr] at hcr hdr hvr
            clear hxr hyr hcvr
            go_wp2_with fail
            go_quiet_grown (first | (go_at_call 26; refine Calls.grown_of (hcr _ _)))
            have S2 : Hid (SWK (encI it) 2 w0 blk off dk (grow (w2.drewN nq) osq)) := hide (SG.out nq osq)
            clear lra0 lra1 lrb0 lrb1 hcr SG
            generalize grow (w2.drewN nq) osq = w2 at S2 ⊢
            clear nq osq
            have HGO : Hid (siftDown (ltOf (cfI s zs it)) hi F root dk = siftDown (ltOf (cfI s zs it)) hi F ((ch + 1)) (swp dk (F + root) (F + (ch + 1)))) := hide (by have e := HCH.out; subst e; exact sd_right_go _ dk (by omega) hlw hlv)
            have S2z : dk.size = d.size := hds.out
            have S3 : Hid _ := hide (SWI.swapped S2.out R (F + root) (F + (ch + 1)) (by have := S2z; omega) (by have := S2z; omega))
            obtain ⟨cs1, fs1⟩ := SWI.cell0 S2.out R (hds.out.trans HS.out) (i := F + root) (by have := S2z; omega)
            obtain ⟨cs1b, fs1b⟩ := SWI.cell1 S2.out R (hds.out.trans HS.out) (i := F + root) (by have := S2z; omega)
            obtain ⟨cs3, fs3⟩ := SWI.cell0 S2.out R (hds.out.trans HS.out) (i := F + (ch + 1)) (by have := S2z; omega)
            obtain ⟨cs3b, fs3b⟩ := SWI.cell1 S2.out R (hds.out.trans HS.out) (i := F + (ch + 1)) (by have := S2z; omega)
            obtain ⟨xs1, hxs1⟩ : ∃ x, x = dk[F + root]! := ⟨_, rfl⟩
            obtain ⟨xs3, hxs3⟩ : ∃ x, x = dk[F + (ch + 1)]! := ⟨_, rfl⟩
            rw [← hxs1] at S3 cs1 cs1b
            rw [← hxs3] at S3 cs3 cs3b
            clear hxs1 hxs3
            go_wp2_with fail
            go_big_region_o
            clear cs1 cs1b cs3 cs3b fs1 fs1b fs3 fs3b
            generalize World.drew _ = w3 at S3 ⊢
            go_wp2
            go_roundw
            case rel => exact ⟨(ch + 1), swp dk (F + root) (F + (ch + 1)), by go_num, by omega, S3, hide (by rw [size_swp]; exact hds.out), hide (by rw [← HE.out, HGO.out])⟩
            case measure => simp [intOf]; omega
        | false =>
          have hlv := hlw
          have eqi : ((F : Int) + (ch : Int)).toNat = F + ch := by omega
          have pqi : (0 : Int) ≤ (F : Int) + (ch : Int) := by omega
          have bqi : (F : Int) + (ch : Int) < (d.size : Int) := by omega
          have rqi : IntKind.i64.wrap ((F : Int) + (ch : Int)) = (F : Int) + (ch : Int) := by rw [IntKind.wrap_i64]; omega
          have eqj : ((F : Int) + (ch : Int) + 1).toNat = F + ch + 1 := by omega
          have pqj : (0 : Int) ≤ (F : Int) + (ch : Int) + 1 := by omega
          have bqj : (F : Int) + (ch : Int) + 1 < (d.size : Int) := by omega
          have rqj : IntKind.i64.wrap ((F : Int) + (ch : Int) + 1) = (F : Int) + (ch : Int) + 1 := by rw [IntKind.wrap_i64]; omega
          obtain ⟨xq, hxq⟩ : ∃ x, x = dk[F + ch]! := ⟨_, rfl⟩
          obtain ⟨yq, hyq⟩ : ∃ x, x = dk[F + ch + 1]! := ⟨_, rfl⟩
          have lqa0 : ∀ n os, (grow (wr.drewN n) os).cell? ⟨blk, off + (F + ch) * 2, none⟩ = some (.int .i64 (it xq).1) := fun n os => by rw [hxq]; exact (SWI.cell0 (S1.out.grown n os) R (hds.out.trans HS.out) (i := F + ch) (by have := S1z; omega)).1
          have lqa1 : ∀ n os, (grow (wr.drewN n) os).cell? ⟨blk, off + (F + ch) * 2 + 1, none⟩ = some (.int .i64 (it xq).2) := fun n os => by rw [hxq]; exact (SWI.cell1 (S1.out.grown n os) R (hds.out.trans HS.out) (i := F + ch) (by have := S1z; omega)).1
          have lqb0 : ∀ n os, (grow (wr.drewN n) os).cell? ⟨blk, off + (F + ch + 1) * 2, none⟩ = some (.int .i64 (it yq).1) := fun n os => by rw [hyq]; exact (SWI.cell0 (S1.out.grown n os) R (hds.out.trans HS.out) (i := F + ch + 1) (by have := S1z; omega)).1
          have lqb1 : ∀ n os, (grow (wr.drewN n) os).cell? ⟨blk, off + (F + ch + 1) * 2 + 1, none⟩ = some (.int .i64 (it yq).2) := fun n os => by rw [hyq]; exact (SWI.cell1 (S1.out.grown n os) R (hds.out.trans HS.out) (i := F + ch + 1) (by have := S1z; omega)).1
          have hcq := SWI.cmp S1.out R C xq yq
          have hdq : decide (cfI s zs it xq yq < 0) = false := by rw [hxq, hyq]; exact hlv
          have hvq : ¬ cfI s zs it xq yq < 0 := of_decide_eq_false hdq
          have SG : Hid (∀ n os, SWK (encI it) 2 w0 blk off dk (grow (wr.drewN n) os)) := hide fun n os => S1.out.grown n os
          obtain ⟨cvq, hcvq⟩ : ∃ z, z = cfI s zs it xq yq := ⟨_, rfl⟩
          rw [← hcvq] at hcq hdq hvq
          clear hxq hyq hcvq
          go_wp2_with fail
          go_quiet_grown (first | (go_at_call 26; refine Calls.grown_of (hcq _ _)))
          have S2 : Hid (SWK (encI it) 2 w0 blk off dk (grow (wr.drewN nq) osq)) := hide (SG.out nq osq)
          clear lqa0 lqa1 lqb0 lqb1 hcq SG
          generalize grow (wr.drewN nq) osq = w2 at S2 ⊢
          clear nq osq
          clear hlv
          have S2z : dk.size = d.size := hds.out
          cases hlv : ltOf (cfI s zs it) dk[F + root]! dk[F + ch]! with
          | false =>
            have eri : ((F : Int) + (root : Int)).toNat = F + root := by omega
            have pri : (0 : Int) ≤ (F : Int) + (root : Int) := by omega
            have bri : (F : Int) + (root : Int) < (d.size : Int) := by omega
            have rri : IntKind.i64.wrap ((F : Int) + (root : Int)) = (F : Int) + (root : Int) := by rw [IntKind.wrap_i64]; omega
            have erj : ((F : Int) + (ch : Int)).toNat = F + ch := by omega
            have prj : (0 : Int) ≤ (F : Int) + (ch : Int) := by omega
            have brj : (F : Int) + (ch : Int) < (d.size : Int) := by omega
            have rrj : IntKind.i64.wrap ((F : Int) + (ch : Int)) = (F : Int) + (ch : Int) := by rw [IntKind.wrap_i64]; omega
            obtain ⟨xr, hxr⟩ : ∃ x, x = dk[F + root]! := ⟨_, rfl⟩
            obtain ⟨yr, hyr⟩ : ∃ x, x = dk[F + ch]! := ⟨_, rfl⟩
            have lra0 : ∀ n os, (grow (w2.drewN n) os).cell? ⟨blk, off + (F + root) * 2, none⟩ = some (.int .i64 (it xr).1) := fun n os => by rw [hxr]; exact (SWI.cell0 (S2.out.grown n os) R (hds.out.trans HS.out) (i := F + root) (by have := S2z; omega)).1
            have lra1 : ∀ n os, (grow (w2.drewN n) os).cell? ⟨blk, off + (F + root) * 2 + 1, none⟩ = some (.int .i64 (it xr).2) := fun n os => by rw [hxr]; exact (SWI.cell1 (S2.out.grown n os) R (hds.out.trans HS.out) (i := F + root) (by have := S2z; omega)).1
            have lrb0 : ∀ n os, (grow (w2.drewN n) os).cell? ⟨blk, off + (F + ch) * 2, none⟩ = some (.int .i64 (it yr).1) := fun n os => by rw [hyr]; exact (SWI.cell0 (S2.out.grown n os) R (hds.out.trans HS.out) (i := F + ch) (by have := S2z; omega)).1
            have lrb1 : ∀ n os, (grow (w2.drewN n) os).cell? ⟨blk, off + (F + ch) * 2 + 1, none⟩ = some (.int .i64 (it yr).2) := fun n os => by rw [hyr]; exact (SWI.cell1 (S2.out.grown n os) R (hds.out.trans HS.out) (i := F + ch) (by have := S2z; omega)).1
            have hcr := SWI.cmp S2.out R C xr yr
            have hdr : decide (cfI s zs it xr yr < 0) = false := by rw [hxr, hyr]; exact hlv
            have hvr : ¬ cfI s zs it xr yr < 0 := of_decide_eq_false hdr
            have SG : Hid (∀ n os, SWK (encI it) 2 w0 blk off dk (grow (w2.drewN n) os)) := hide fun n os => S2.out.grown n os
            obtain ⟨cvr, hcvr⟩ : ∃ z, z = cfI s zs it xr yr := ⟨_, rfl⟩
            rw [← hcvr] at hcr hdr hvr
            clear hxr hyr hcvr
            go_wp2_with fail
            go_quiet_grown (first | (go_at_call 26; refine Calls.grown_of (hcr _ _)))
            have S2 : Hid (SWK (encI it) 2 w0 blk off dk (grow (w2.drewN nq) osq)) := hide (SG.out nq osq)
            clear lra0 lra1 lrb0 lrb1 hcr SG
            generalize grow (w2.drewN nq) osq = w2 at S2 ⊢
            clear nq osq
            have HEND : Hid (siftDown (ltOf (cfI s zs it)) hi F root dk = dk) := hide (by have e := HCH.out; subst e; exact sd_left_stop _ dk (by omega) (fun _ => hlw) hlv)
            go_wp2
            refine bodyPost_ret (results_none rfl _ _ _) rfl ?_
            exact ⟨rfl, by rw [← HE.out, HEND.out]; exact S2.out⟩
          | true =>
            have eri : ((F : Int) + (root : Int)).toNat = F + root := by omega
            have pri : (0 : Int) ≤ (F : Int) + (root : Int) := by omega
            have bri : (F : Int) + (root : Int) < (d.size : Int) := by omega
            have rri : IntKind.i64.wrap ((F : Int) + (root : Int)) = (F : Int) + (root : Int) := by rw [IntKind.wrap_i64]; omega
            have erj : ((F : Int) + (ch : Int)).toNat = F + ch := by omega
            have prj : (0 : Int) ≤ (F : Int) + (ch : Int) := by omega
            have brj : (F : Int) + (ch : Int) < (d.size : Int) := by omega
            have rrj : IntKind.i64.wrap ((F : Int) + (ch : Int)) = (F : Int) + (ch : Int) := by rw [IntKind.wrap_i64]; omega
            obtain ⟨xr, hxr⟩ : ∃ x, x = dk[F + root]! := ⟨_, rfl⟩
            obtain ⟨yr, hyr⟩ : ∃ x, x = dk[F + ch]! := ⟨_, rfl⟩
            have lra0 : ∀ n os, (grow (w2.drewN n) os).cell? ⟨blk, off + (F + root) * 2, none⟩ = some (.int .i64 (it xr).1) := fun n os => by rw [hxr]; exact (SWI.cell0 (S2.out.grown n os) R (hds.out.trans HS.out) (i := F + root) (by have := S2z; omega)).1
            have lra1 : ∀ n os, (grow (w2.drewN n) os).cell? ⟨blk, off + (F + root) * 2 + 1, none⟩ = some (.int .i64 (it xr).2) := fun n os => by rw [hxr]; exact (SWI.cell1 (S2.out.grown n os) R (hds.out.trans HS.out) (i := F + root) (by have := S2z; omega)).1
            have lrb0 : ∀ n os, (grow (w2.drewN n) os).cell? ⟨blk, off + (F + ch) * 2, none⟩ = some (.int .i64 (it yr).1) := fun n os => by rw [hyr]; exact (SWI.cell0 (S2.out.grown n os) R (hds.out.trans HS.out) (i := F + ch) (by have := S2z; omega)).1
            have lrb1 : ∀ n os, (grow (w2.drewN n) os).cell? ⟨blk, off + (F + ch) * 2 + 1, none⟩ = some (.int .i64 (it yr).2) := fun n os => by rw [hyr]; exact (SWI.cell1 (S2.out.grown n os) R (hds.out.trans HS.out) (i := F + ch) (by have := S2z; omega)).1
            have hcr := SWI.cmp S2.out R C xr yr
            have hdr : decide (cfI s zs it xr yr < 0) = true := by rw [hxr, hyr]; exact hlv
            have hvr : cfI s zs it xr yr < 0 := of_decide_eq_true hdr
            have SG : Hid (∀ n os, SWK (encI it) 2 w0 blk off dk (grow (w2.drewN n) os)) := hide fun n os => S2.out.grown n os
            obtain ⟨cvr, hcvr⟩ : ∃ z, z = cfI s zs it xr yr := ⟨_, rfl⟩
            rw [← hcvr] at hcr hdr hvr
            clear hxr hyr hcvr
            go_wp2_with fail
            go_quiet_grown (first | (go_at_call 26; refine Calls.grown_of (hcr _ _)))
            have S2 : Hid (SWK (encI it) 2 w0 blk off dk (grow (w2.drewN nq) osq)) := hide (SG.out nq osq)
            clear lra0 lra1 lrb0 lrb1 hcr SG
            generalize grow (w2.drewN nq) osq = w2 at S2 ⊢
            clear nq osq
            have HGO : Hid (siftDown (ltOf (cfI s zs it)) hi F root dk = siftDown (ltOf (cfI s zs it)) hi F (ch) (swp dk (F + root) (F + ch))) := hide (by have e := HCH.out; subst e; exact sd_left_go _ dk (by omega) (fun _ => hlw) hlv)
            have S2z : dk.size = d.size := hds.out
            have S3 : Hid _ := hide (SWI.swapped S2.out R (F + root) (F + ch) (by have := S2z; omega) (by have := S2z; omega))
            obtain ⟨cs1, fs1⟩ := SWI.cell0 S2.out R (hds.out.trans HS.out) (i := F + root) (by have := S2z; omega)
            obtain ⟨cs1b, fs1b⟩ := SWI.cell1 S2.out R (hds.out.trans HS.out) (i := F + root) (by have := S2z; omega)
            obtain ⟨cs3, fs3⟩ := SWI.cell0 S2.out R (hds.out.trans HS.out) (i := F + ch) (by have := S2z; omega)
            obtain ⟨cs3b, fs3b⟩ := SWI.cell1 S2.out R (hds.out.trans HS.out) (i := F + ch) (by have := S2z; omega)
            obtain ⟨xs1, hxs1⟩ : ∃ x, x = dk[F + root]! := ⟨_, rfl⟩
            obtain ⟨xs3, hxs3⟩ : ∃ x, x = dk[F + ch]! := ⟨_, rfl⟩
            rw [← hxs1] at S3 cs1 cs1b
            rw [← hxs3] at S3 cs3 cs3b
            clear hxs1 hxs3
            go_wp2_with fail
            go_big_region_o
            clear cs1 cs1b cs3 cs3b fs1 fs1b fs3 fs3b
            generalize World.drew _ = w3 at S3 ⊢
            go_wp2
            go_roundw
            case rel => exact ⟨ch, swp dk (F + root) (F + ch), by go_num, by omega, S3, hide (by rw [size_swp]; exact hds.out), hide (by rw [← HE.out, HGO.out])⟩
            case measure => simp [intOf]; omega
      · have h1z : ¬ (ch : Int) + 1 < (hi : Int) := by omega
        have h1d : decide ((ch : Int) + 1 < (hi : Int)) = false := decide_eq_false h1z
        have S2 : Hid (SWK (encI it) 2 w0 blk off dk wr.drew) := hide S1.out.drew
        go_wp2_with fail
        go_big_region_o
        generalize wr.drew = w2 at S2 ⊢
        have S2z : dk.size = d.size := hds.out
        cases hlv : ltOf (cfI s zs it) dk[F + root]! dk[F + ch]! with
        | false =>
          have eri : ((F : Int) + (root : Int)).toNat = F + root := by omega
          have pri : (0 : Int) ≤ (F : Int) + (root : Int) := by omega
          have bri : (F : Int) + (root : Int) < (d.size : Int) := by omega
          have rri : IntKind.i64.wrap ((F : Int) + (root : Int)) = (F : Int) + (root : Int) := by rw [IntKind.wrap_i64]; omega
          have erj : ((F : Int) + (ch : Int)).toNat = F + ch := by omega
          have prj : (0 : Int) ≤ (F : Int) + (ch : Int) := by omega
          have brj : (F : Int) + (ch : Int) < (d.size : Int) := by omega
          have rrj : IntKind.i64.wrap ((F : Int) + (ch : Int)) = (F : Int) + (ch : Int) := by rw [IntKind.wrap_i64]; omega
          obtain ⟨xr, hxr⟩ : ∃ x, x = dk[F + root]! := ⟨_, rfl⟩
          obtain ⟨yr, hyr⟩ : ∃ x, x = dk[F + ch]! := ⟨_, rfl⟩
          have lra0 : ∀ n os, (grow (w2.drewN n) os).cell? ⟨blk, off + (F + root) * 2, none⟩ = some (.int .i64 (it xr).1) := fun n os => by rw [hxr]; exact (SWI.cell0 (S2.out.grown n os) R (hds.out.trans HS.out) (i := F + root) (by have := S2z; omega)).1
          have lra1 : ∀ n os, (grow (w2.drewN n) os).cell? ⟨blk, off + (F + root) * 2 + 1, none⟩ = some (.int .i64 (it xr).2) := fun n os => by rw [hxr]; exact (SWI.cell1 (S2.out.grown n os) R (hds.out.trans HS.out) (i := F + root) (by have := S2z; omega)).1
          have lrb0 : ∀ n os, (grow (w2.drewN n) os).cell? ⟨blk, off + (F + ch) * 2, none⟩ = some (.int .i64 (it yr).1) := fun n os => by rw [hyr]; exact (SWI.cell0 (S2.out.grown n os) R (hds.out.trans HS.out) (i := F + ch) (by have := S2z; omega)).1
          have lrb1 : ∀ n os, (grow (w2.drewN n) os).cell? ⟨blk, off + (F + ch) * 2 + 1, none⟩ = some (.int .i64 (it yr).2) := fun n os => by rw [hyr]; exact (SWI.cell1 (S2.out.grown n os) R (hds.out.trans HS.out) (i := F + ch) (by have := S2z; omega)).1
          have hcr := SWI.cmp S2.out R C xr yr
          have hdr : decide (cfI s zs it xr yr < 0) = false := by rw [hxr, hyr]; exact hlv
          have hvr : ¬ cfI s zs it xr yr < 0 := of_decide_eq_false hdr
          have SG : Hid (∀ n os, SWK (encI it) 2 w0 blk off dk (grow (w2.drewN n) os)) := hide fun n os => S2.out.grown n os
          obtain ⟨cvr, hcvr⟩ : ∃ z, z = cfI s zs it xr yr := ⟨_, rfl⟩
          rw [← hcvr] at hcr hdr hvr
          clear hxr hyr hcvr
          go_wp2_with fail
          go_quiet_grown (first | (go_at_call 26; refine Calls.grown_of (hcr _ _)))
          have S2 : Hid (SWK (encI it) 2 w0 blk off dk (grow (w2.drewN nq) osq)) := hide (SG.out nq osq)
          clear lra0 lra1 lrb0 lrb1 hcr SG
          generalize grow (w2.drewN nq) osq = w2 at S2 ⊢
          clear nq osq
          have HEND : Hid (siftDown (ltOf (cfI s zs it)) hi F root dk = dk) := hide (by have e := HCH.out; subst e; exact sd_left_stop _ dk (by omega) (fun h => absurd h (by omega)) hlv)
          go_wp2
          refine bodyPost_ret (results_none rfl _ _ _) rfl ?_
          exact ⟨rfl, by rw [← HE.out, HEND.out]; exact S2.out⟩
        | true =>
          have eri : ((F : Int) + (root : Int)).toNat = F + root := by omega
          have pri : (0 : Int) ≤ (F : Int) + (root : Int) := by omega
          have bri : (F : Int) + (root : Int) < (d.size : Int) := by omega
          have rri : IntKind.i64.wrap ((F : Int) + (root : Int)) = (F : Int) + (root : Int) := by rw [IntKind.wrap_i64]; omega
          have erj : ((F : Int) + (ch : Int)).toNat = F + ch := by omega
          have prj : (0 : Int) ≤ (F : Int) + (ch : Int) := by omega
          have brj : (F : Int) + (ch : Int) < (d.size : Int) := by omega
          have rrj : IntKind.i64.wrap ((F : Int) + (ch : Int)) = (F : Int) + (ch : Int) := by rw [IntKind.wrap_i64]; omega
          obtain ⟨xr, hxr⟩ : ∃ x, x = dk[F + root]! := ⟨_, rfl⟩
          obtain ⟨yr, hyr⟩ : ∃ x, x = dk[F + ch]! := ⟨_, rfl⟩
          have lra0 : ∀ n os, (grow (w2.drewN n) os).cell? ⟨blk, off + (F + root) * 2, none⟩ = some (.int .i64 (it xr).1) := fun n os => by rw [hxr]; exact (SWI.cell0 (S2.out.grown n os) R (hds.out.trans HS.out) (i := F + root) (by have := S2z; omega)).1
          have lra1 : ∀ n os, (grow (w2.drewN n) os).cell? ⟨blk, off + (F + root) * 2 + 1, none⟩ = some (.int .i64 (it xr).2) := fun n os => by rw [hxr]; exact (SWI.cell1 (S2.out.grown n os) R (hds.out.trans HS.out) (i := F + root) (by have := S2z; omega)).1
          have lrb0 : ∀ n os, (grow (w2.drewN n) os).cell? ⟨blk, off + (F + ch) * 2, none⟩ = some (.int .i64 (it yr).1) := fun n os => by rw [hyr]; exact (SWI.cell0 (S2.out.grown n os) R (hds.out.trans HS.out) (i := F + ch) (by have := S2z; omega)).1
          have lrb1 : ∀ n os, (grow (w2.drewN n) os).cell? ⟨blk, off + (F + ch) * 2 + 1, none⟩ = some (.int .i64 (it yr).2) := fun n os => by rw [hyr]; exact (SWI.cell1 (S2.out.grown n os) R (hds.out.trans HS.out) (i := F + ch) (by have := S2z; omega)).1
          have hcr := SWI.cmp S2.out R C xr yr
          have hdr : decide (cfI s zs it xr yr < 0) = true := by rw [hxr, hyr]; exact hlv
          have hvr : cfI s zs it xr yr < 0 := of_decide_eq_true hdr
          have SG : Hid (∀ n os, SWK (encI it) 2 w0 blk off dk (grow (w2.drewN n) os)) := hide fun n os => S2.out.grown n os
          obtain ⟨cvr, hcvr⟩ : ∃ z, z = cfI s zs it xr yr := ⟨_, rfl⟩
          rw [← hcvr] at hcr hdr hvr
          clear hxr hyr hcvr
          go_wp2_with fail
          go_quiet_grown (first | (go_at_call 26; refine Calls.grown_of (hcr _ _)))
          have S2 : Hid (SWK (encI it) 2 w0 blk off dk (grow (w2.drewN nq) osq)) := hide (SG.out nq osq)
          clear lra0 lra1 lrb0 lrb1 hcr SG
          generalize grow (w2.drewN nq) osq = w2 at S2 ⊢
          clear nq osq
          have HGO : Hid (siftDown (ltOf (cfI s zs it)) hi F root dk = siftDown (ltOf (cfI s zs it)) hi F (ch) (swp dk (F + root) (F + ch))) := hide (by have e := HCH.out; subst e; exact sd_left_go _ dk (by omega) (fun h => absurd h (by omega)) hlv)
          have S2z : dk.size = d.size := hds.out
          have S3 : Hid _ := hide (SWI.swapped S2.out R (F + root) (F + ch) (by have := S2z; omega) (by have := S2z; omega))
          obtain ⟨cs1, fs1⟩ := SWI.cell0 S2.out R (hds.out.trans HS.out) (i := F + root) (by have := S2z; omega)
          obtain ⟨cs1b, fs1b⟩ := SWI.cell1 S2.out R (hds.out.trans HS.out) (i := F + root) (by have := S2z; omega)
          obtain ⟨cs3, fs3⟩ := SWI.cell0 S2.out R (hds.out.trans HS.out) (i := F + ch) (by have := S2z; omega)
          obtain ⟨cs3b, fs3b⟩ := SWI.cell1 S2.out R (hds.out.trans HS.out) (i := F + ch) (by have := S2z; omega)
          obtain ⟨xs1, hxs1⟩ : ∃ x, x = dk[F + root]! := ⟨_, rfl⟩
          obtain ⟨xs3, hxs3⟩ : ∃ x, x = dk[F + ch]! := ⟨_, rfl⟩
          rw [← hxs1] at S3 cs1 cs1b
          rw [← hxs3] at S3 cs3 cs3b
          clear hxs1 hxs3
          go_wp2_with fail
          go_big_region_o
          clear cs1 cs1b cs3 cs3b fs1 fs1b fs3 fs3b
          generalize World.drew _ = w3 at S3 ⊢
          go_wp2
          go_roundw
          case rel => exact ⟨ch, swp dk (F + root) (F + ch), by go_num, by omega, S3, hide (by rw [size_swp]; exact hds.out), hide (by rw [← HE.out, HGO.out])⟩
          case measure => simp [intOf]; omega
end Go.Proofs.Ytiocgmeonfanmaa
