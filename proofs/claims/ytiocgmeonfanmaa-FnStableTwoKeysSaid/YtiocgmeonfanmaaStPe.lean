/-
  slices.partitionCmpFunc at items.
-/
import Derived.Deep.DeepCutAuto
import Derived.Test.YtiocgmeonfanmaaStB
import Derived.Sort.WalkC4
namespace Go.Proofs.Ytiocgmeonfanmaa
open Go.RowKit Go.Sort Go.Shelf
set_option linter.unusedVariables false
set_option linter.unusedSimpArgs false
variable {α : Type} [Inhabited α]

set_option maxHeartbeats 4000000 in
set_option maxRecDepth 1000000 in
theorem partitionI (it : α → Int × Int) (s : Int) (A : Option Addr) (l c B : Nat) (zs : List Int) (blk off cap a bp pv : Nat) (d0 d : Array α) (w0 w : World) (R : RowK (encI it) 2 w0 blk off d0) (C : CmpB s A l c B zs w0 blk) (hs : d.size = d0.size) (S : SWK (encI it) 2 w0 blk off d w) (hap : a ≤ pv) (hpb : pv ≤ bp) (hb : bp + 1 ≤ d.size) (hsz : d.size < 2305843009213693952) :
    Calls Try.prog 52 #[.slice (some ⟨blk, off, none⟩) d.size cap, .int .i64 a, .int .i64 ((bp : Int) + 1), .int .i64 pv, .func (.func 26) #[.agg #[.int .i64 s, .slice A l c]] #[]] w fun e w' => e = .returned (.tuple #[.int .i64 ((partition (ltOf (cfI s zs it)) d a (bp + 1) pv).1 : Nat), .bool (partition (ltOf (cfI s zs it)) d a (bp + 1) pv).2.1]) ∧ SWK (encI it) 2 w0 blk off (partition (ltOf (cfI s zs it)) d a (bp + 1) pv).2.2 w' := by
  have mixed := mixedI
  have eg := egI
  have HS := hide hs
  clear hs
  have S0 : Hid (SWK (encI it) 2 w0 blk off d w) := S
  clear S
  obtain ⟨d1, hd1⟩ : ∃ d1, d1 = swp d a pv := ⟨_, rfl⟩
  have HD1 := hide hd1
  have DS1 : Hid (d1.size = d.size) := hide (by rw [hd1, size_swp])
  clear hd1
  go_enter Try.func52, Try.ntmps52
  go_upto_region 1 with fail
  go_cut [] (fun wx => Hid (SWK (encI it) 2 w0 blk off d1 wx))
  case first =>
    have S0z : d.size = d.size := rfl
    by_cases hpa : a = pv
    · subst hpa
      have esi : ((a : Int)).toNat = a := by omega
      have psi : (0 : Int) ≤ (a : Int) := by omega
      have bsi : (a : Int) < (d.size : Int) := by omega
      have rsi : IntKind.i64.wrap ((a : Int)) = (a : Int) := by rw [IntKind.wrap_i64]; omega
      have S3 : Hid _ := hide (SWI.swapped S0.out R (a) (a) (by have := S0z; omega) (by have := S0z; omega))
      obtain ⟨cs1, fs1⟩ := SWI.cell0 S0.out R HS.out (i := a) (by have := S0z; omega)
      obtain ⟨cs1b, fs1b⟩ := SWI.cell1 S0.out R HS.out (i := a) (by have := S0z; omega)
      obtain ⟨cs3, fs3⟩ := SWI.cell0 S0.out R HS.out (i := a) (by have := S0z; omega)
      obtain ⟨cs3b, fs3b⟩ := SWI.cell1 S0.out R HS.out (i := a) (by have := S0z; omega)
      obtain ⟨xs1, hxs1⟩ : ∃ x, x = d[a]! := ⟨_, rfl⟩
      rw [← hxs1] at S3 cs1 cs1b cs3 cs3b
      clear hxs1
      go_wp2_with fail
      go_big_region_o
      clear cs1 cs1b cs3 cs3b fs1 fs1b fs3 fs3b
      go_wp2_with fail
      go_meet
      case rel => rw [HD1.out]; exact S3
    · have hlt : a < pv := by omega
      have esi : ((a : Int)).toNat = a := by omega
      have psi : (0 : Int) ≤ (a : Int) := by omega
      have bsi : (a : Int) < (d.size : Int) := by omega
      have rsi : IntKind.i64.wrap ((a : Int)) = (a : Int) := by rw [IntKind.wrap_i64]; omega
      have esj : ((pv : Int)).toNat = pv := by omega
      have psj : (0 : Int) ≤ (pv : Int) := by omega
      have bsj : (pv : Int) < (d.size : Int) := by omega
      have rsj : IntKind.i64.wrap ((pv : Int)) = (pv : Int) := by rw [IntKind.wrap_i64]; omega
      have S3 : Hid _ := hide (SWI.swapped S0.out R (a) (pv) (by have := S0z; omega) (by have := S0z; omega))
      obtain ⟨cs1, fs1⟩ := SWI.cell0 S0.out R HS.out (i := a) (by have := S0z; omega)
      obtain ⟨cs1b, fs1b⟩ := SWI.cell1 S0.out R HS.out (i := a) (by have := S0z; omega)
      obtain ⟨cs3, fs3⟩ := SWI.cell0 S0.out R HS.out (i := pv) (by have := S0z; omega)
      obtain ⟨cs3b, fs3b⟩ := SWI.cell1 S0.out R HS.out (i := pv) (by have := S0z; omega)
      obtain ⟨xs1, hxs1⟩ : ∃ x, x = d[a]! := ⟨_, rfl⟩
      obtain ⟨xs3, hxs3⟩ : ∃ x, x = d[pv]! := ⟨_, rfl⟩
      rw [← hxs1] at S3 cs1 cs1b
      rw [← hxs3] at S3 cs3 cs3b
      clear hxs1 hxs3
      go_wp2_with fail
      go_big_region_o
      clear cs1 cs1b cs3 cs3b fs1 fs1b fs3 fs3b
      go_wp2_with fail
      go_meet
      case rel => rw [HD1.out]; exact S3
  case rest =>
    clear S0
    have S1 := hcut
    go_wp2_with fail
    go_loopw [12] (fun vi wr => ∃ i : Nat, vi = .int .i64 i ∧ (a + 1) ≤ i ∧ i ≤ bp + 1 ∧ Hid (SWK (encI it) 2 w0 blk off d1 wr) ∧ Hid (scanUp (fun x => ltOf (cfI s zs it) x d1[a]!) d1 bp i = scanUp (fun x => ltOf (cfI s zs it) x d1[a]!) d1 bp ((a + 1)))) (fun vi _ => bp + 2 - (intOf vi).toNat)
    case atStart => exact ⟨(a + 1), by first | rfl | go_num, Nat.le_refl _, by omega, S1, hide rfl⟩
    case round =>
      clear S1
      obtain ⟨i, rfl, hlo, hij, T1, HE⟩ := hrel
      have hai : a < i := by omega
      have T1z : d1.size = d.size := DS1.out
      go_upto_region 3 with fail
      go_cut [47] (fun sv wx => sv = .bool (decide (i ≤ bp) && ltOf (cfI s zs it) d1[i]! d1[a]!) ∧ Hid (SWK (encI it) 2 w0 blk off d1 wx))
      case first =>
        by_cases hle : i ≤ bp
        · have hlez : (i : Int) ≤ (bp : Int) := by omega
          have hled : decide ((i : Int) ≤ (bp : Int)) = true := decide_eq_true hlez
          cases hlv : ltOf (cfI s zs it) d1[i]! d1[a]! with
          | true =>
            have eqi : ((i : Int)).toNat = i := by omega
            have pqi : (0 : Int) ≤ (i : Int) := by omega
            have bqi : (i : Int) < (d.size : Int) := by omega
            have rqi : IntKind.i64.wrap ((i : Int)) = (i : Int) := by rw [IntKind.wrap_i64]; omega
            have eqj : ((a : Int)).toNat = a := by omega
            have pqj : (0 : Int) ≤ (a : Int) := by omega
            have bqj : (a : Int) < (d.size : Int) := by omega
            have rqj : IntKind.i64.wrap ((a : Int)) = (a : Int) := by rw [IntKind.wrap_i64]; omega
            obtain ⟨xq, hxq⟩ : ∃ x, x = d1[i]! := ⟨_, rfl⟩
            obtain ⟨yq, hyq⟩ : ∃ x, x = d1[a]! := ⟨_, rfl⟩
            have lqa0 : ∀ n os, (grow (wr.drewN n) os).cell? ⟨blk, off + i * 2, none⟩ = some (.int .i64 (it xq).1) := fun n os => by rw [hxq]; exact (SWI.cell0 (T1.out.grown n os) R (DS1.out.trans HS.out) (i := i) (by have := T1z; omega)).1
            have lqa1 : ∀ n os, (grow (wr.drewN n) os).cell? ⟨blk, off + i * 2 + 1, none⟩ = some (.int .i64 (it xq).2) := fun n os => by rw [hxq]; exact (SWI.cell1 (T1.out.grown n os) R (DS1.out.trans HS.out) (i := i) (by have := T1z; omega)).1
            have lqb0 : ∀ n os, (grow (wr.drewN n) os).cell? ⟨blk, off + a * 2, none⟩ = some (.int .i64 (it yq).1) := fun n os => by rw [hyq]; exact (SWI.cell0 (T1.out.grown n os) R (DS1.out.trans HS.out) (i := a) (by have := T1z; omega)).1
            have lqb1 : ∀ n os, (grow (wr.drewN n) os).cell? ⟨blk, off + a * 2 + 1, none⟩ = some (.int .i64 (it yq).2) := fun n os => by rw [hyq]; exact (SWI.cell1 (T1.out.grown n os) R (DS1.out.trans HS.out) (i := a) (by have := T1z; omega)).1
            have hcq := SWI.cmp T1.out R C xq yq
            have hdq : decide (cfI s zs it xq yq < 0) = true := by rw [hxq, hyq]; exact hlv
            have hvq : cfI s zs it xq yq < 0 := of_decide_eq_true hdq
            have SG : Hid (∀ n os, SWK (encI it) 2 w0 blk off d1 (grow (wr.drewN n) os)) := hide fun n os => T1.out.grown n os
            obtain ⟨cvq, hcvq⟩ : ∃ z, z = cfI s zs it xq yq := ⟨_, rfl⟩
            rw [← hcvq] at hcq hdq hvq
            clear hxq hyq hcvq
            go_wp2_with fail
            go_quiet_grown (first | (go_at_call 26; refine Calls.grown_of (hcq _ _)))
            have S2 : Hid (SWK (encI it) 2 w0 blk off d1 (grow (wr.drewN nq) osq)) := hide (SG.out nq osq)
            clear lqa0 lqa1 lqb0 lqb1 hcq SG
            go_wp2_with fail
            go_meet
            case rel => exact ⟨by simp [hle, hlv], S2⟩
          | false =>
            have eqi : ((i : Int)).toNat = i := by omega
            have pqi : (0 : Int) ≤ (i : Int) := by omega
            have bqi : (i : Int) < (d.size : Int) := by omega
            have rqi : IntKind.i64.wrap ((i : Int)) = (i : Int) := by rw [IntKind.wrap_i64]; omega
            have eqj : ((a : Int)).toNat = a := by omega
            have pqj : (0 : Int) ≤ (a : Int) := by omega
            have bqj : (a : Int) < (d.size : Int) := by omega
            have rqj : IntKind.i64.wrap ((a : Int)) = (a : Int) := by rw [IntKind.wrap_i64]; omega
            obtain ⟨xq, hxq⟩ : ∃ x, x = d1[i]! := ⟨_, rfl⟩
            obtain ⟨yq, hyq⟩ : ∃ x, x = d1[a]! := ⟨_, rfl⟩
            have lqa0 : ∀ n os, (grow (wr.drewN n) os).cell? ⟨blk, off + i * 2, none⟩ = some (.int .i64 (it xq).1) := fun n os => by rw [hxq]; exact (SWI.cell0 (T1.out.grown n os) R (DS1.out.trans HS.out) (i := i) (by have := T1z; omega)).1
            have lqa1 : ∀ n os, (grow (wr.drewN n) os).cell? ⟨blk, off + i * 2 + 1, none⟩ = some (.int .i64 (it xq).2) := fun n os => by rw [hxq]; exact (SWI.cell1 (T1.out.grown n os) R (DS1.out.trans HS.out) (i := i) (by have := T1z; omega)).1
            have lqb0 : ∀ n os, (grow (wr.drewN n) os).cell? ⟨blk, off + a * 2, none⟩ = some (.int .i64 (it yq).1) := fun n os => by rw [hyq]; exact (SWI.cell0 (T1.out.grown n os) R (DS1.out.trans HS.out) (i := a) (by have := T1z; omega)).1
            have lqb1 : ∀ n os, (grow (wr.drewN n) os).cell? ⟨blk, off + a * 2 + 1, none⟩ = some (.int .i64 (it yq).2) := fun n os => by rw [hyq]; exact (SWI.cell1 (T1.out.grown n os) R (DS1.out.trans HS.out) (i := a) (by have := T1z; omega)).1
            have hcq := SWI.cmp T1.out R C xq yq
            have hdq : decide (cfI s zs it xq yq < 0) = false := by rw [hxq, hyq]; exact hlv
            have hvq : ¬ cfI s zs it xq yq < 0 := of_decide_eq_false hdq
            have SG : Hid (∀ n os, SWK (encI it) 2 w0 blk off d1 (grow (wr.drewN n) os)) := hide fun n os => T1.out.grown n os
            obtain ⟨cvq, hcvq⟩ : ∃ z, z = cfI s zs it xq yq := ⟨_, rfl⟩
            rw [← hcvq] at hcq hdq hvq
            clear hxq hyq hcvq
            go_wp2_with fail
            go_quiet_grown (first | (go_at_call 26; refine Calls.grown_of (hcq _ _)))
            have S2 : Hid (SWK (encI it) 2 w0 blk off d1 (grow (wr.drewN nq) osq)) := hide (SG.out nq osq)
            clear lqa0 lqa1 lqb0 lqb1 hcq SG
            go_wp2_with fail
            go_meet
            case rel => exact ⟨by simp [hle, hlv], S2⟩
        · have hlez : ¬ (i : Int) ≤ (bp : Int) := by omega
          have hled : decide ((i : Int) ≤ (bp : Int)) = false := decide_eq_false hlez
          have S2 : Hid (SWK (encI it) 2 w0 blk off d1 wr.drew) := hide T1.out.drew
          go_wp2_with fail
          go_big_region_o
          go_wp2_with fail
          go_meet
          case rel => exact ⟨by simp [hle], S2⟩
      case rest =>
        obtain ⟨hsv, S2⟩ := hcut
        subst hsv
        cases hbb : (decide (i ≤ bp) && ltOf (cfI s zs it) d1[i]! d1[a]!) with
        | true =>
          have hb2 : i ≤ bp ∧ ltOf (cfI s zs it) d1[i]! d1[a]! = true := by simpa using hbb
          have HN : Hid (scanUp (fun x => ltOf (cfI s zs it) x d1[a]!) d1 bp (i + 1) = scanUp (fun x => ltOf (cfI s zs it) x d1[a]!) d1 bp ((a + 1))) := hide (by rw [← HE.out]; exact (scanUp_go _ d1 _ i hb2.1 hb2.2).symm)
          have hle2 := hb2.1
          clear hbb hb2
          go_wp2_with fail
          go_roundw
          case rel => first | exact ⟨i + 1, by go_num, by omega, by omega, S2, HN⟩ | ((repeat apply Exists.intro); exact ⟨⟨i + 1, by go_num, by omega, by omega, S2, HN⟩, rfl⟩)
          case measure => simp [intOf]; omega
        | false =>
          have HIU : Hid (i = scanUp (fun x => ltOf (cfI s zs it) x d1[a]!) d1 bp ((a + 1))) := hide (by
            rw [← HE.out]
            refine (scanUp_end _ d1 _ i ?_).symm
            rcases Bool.and_eq_false_iff.1 hbb with h | h
            · exact .inl (by simpa using h)
            · exact .inr h)
          clear hbb HE T1
          obtain ⟨wU, hwU⟩ : ∃ w0 : World, w0 = wc := ⟨_, rfl⟩
          rw [← hwU] at S2 ⊢
          clear hwU
          have SU := S2
          clear S2
          go_wp2_with fail
          go_loopw [13] (fun vj wr => ∃ j : Nat, vj = .int .i64 j ∧ j ≤ bp ∧ i ≤ j + 1 ∧ Hid (SWK (encI it) 2 w0 blk off d1 wr) ∧ Hid (scanDown (fun x => !ltOf (cfI s zs it) x d1[a]!) d1 i j = scanDown (fun x => !ltOf (cfI s zs it) x d1[a]!) d1 i bp)) (fun vj _ => (intOf vj).toNat + 1)
          case atStart => exact ⟨bp, rfl, Nat.le_refl _, by omega, SU, hide rfl⟩
          case round =>
            clear SU
            obtain ⟨j, rfl, hjJ, hij2, T1, HE⟩ := hrel
            have T1z : d1.size = d.size := DS1.out
            go_upto_region 5 with fail
            go_cut [66] (fun sv wx => sv = .bool (decide (i ≤ j) && !ltOf (cfI s zs it) d1[j]! d1[a]!) ∧ Hid (SWK (encI it) 2 w0 blk off d1 wx))
            case first =>
              by_cases hle : i ≤ j
              · have hlez : (i : Int) ≤ (j : Int) := by omega
                have hled : decide ((i : Int) ≤ (j : Int)) = true := decide_eq_true hlez
                cases hlv : ltOf (cfI s zs it) d1[j]! d1[a]! with
                | true =>
                  have eqi : ((j : Int)).toNat = j := by omega
                  have pqi : (0 : Int) ≤ (j : Int) := by omega
                  have bqi : (j : Int) < (d.size : Int) := by omega
                  have rqi : IntKind.i64.wrap ((j : Int)) = (j : Int) := by rw [IntKind.wrap_i64]; omega
                  have eqj : ((a : Int)).toNat = a := by omega
                  have pqj : (0 : Int) ≤ (a : Int) := by omega
                  have bqj : (a : Int) < (d.size : Int) := by omega
                  have rqj : IntKind.i64.wrap ((a : Int)) = (a : Int) := by rw [IntKind.wrap_i64]; omega
                  obtain ⟨xq, hxq⟩ : ∃ x, x = d1[j]! := ⟨_, rfl⟩
                  obtain ⟨yq, hyq⟩ : ∃ x, x = d1[a]! := ⟨_, rfl⟩
                  have lqa0 : ∀ n os, (grow (wr.drewN n) os).cell? ⟨blk, off + j * 2, none⟩ = some (.int .i64 (it xq).1) := fun n os => by rw [hxq]; exact (SWI.cell0 (T1.out.grown n os) R (DS1.out.trans HS.out) (i := j) (by have := T1z; omega)).1
                  have lqa1 : ∀ n os, (grow (wr.drewN n) os).cell? ⟨blk, off + j * 2 + 1, none⟩ = some (.int .i64 (it xq).2) := fun n os => by rw [hxq]; exact (SWI.cell1 (T1.out.grown n os) R (DS1.out.trans HS.out) (i := j) (by have := T1z; omega)).1
                  have lqb0 : ∀ n os, (grow (wr.drewN n) os).cell? ⟨blk, off + a * 2, none⟩ = some (.int .i64 (it yq).1) := fun n os => by rw [hyq]; exact (SWI.cell0 (T1.out.grown n os) R (DS1.out.trans HS.out) (i := a) (by have := T1z; omega)).1
                  have lqb1 : ∀ n os, (grow (wr.drewN n) os).cell? ⟨blk, off + a * 2 + 1, none⟩ = some (.int .i64 (it yq).2) := fun n os => by rw [hyq]; exact (SWI.cell1 (T1.out.grown n os) R (DS1.out.trans HS.out) (i := a) (by have := T1z; omega)).1
                  have hcq := SWI.cmp T1.out R C xq yq
                  have hdq : decide (cfI s zs it xq yq < 0) = true := by rw [hxq, hyq]; exact hlv
                  have hvq : cfI s zs it xq yq < 0 := of_decide_eq_true hdq
                  have SG : Hid (∀ n os, SWK (encI it) 2 w0 blk off d1 (grow (wr.drewN n) os)) := hide fun n os => T1.out.grown n os
                  obtain ⟨cvq, hcvq⟩ : ∃ z, z = cfI s zs it xq yq := ⟨_, rfl⟩
                  rw [← hcvq] at hcq hdq hvq
                  clear hxq hyq hcvq
                  go_wp2_with fail
                  go_quiet_grown (first | (go_at_call 26; refine Calls.grown_of (hcq _ _)))
                  have S2 : Hid (SWK (encI it) 2 w0 blk off d1 (grow (wr.drewN nq) osq)) := hide (SG.out nq osq)
                  clear lqa0 lqa1 lqb0 lqb1 hcq SG
                  go_wp2_with fail
                  go_meet
                  case rel => exact ⟨by simp [hle, hlv], S2⟩
                | false =>
                  have eqi : ((j : Int)).toNat = j := by omega
                  have pqi : (0 : Int) ≤ (j : Int) := by omega
                  have bqi : (j : Int) < (d.size : Int) := by omega
                  have rqi : IntKind.i64.wrap ((j : Int)) = (j : Int) := by rw [IntKind.wrap_i64]; omega
                  have eqj : ((a : Int)).toNat = a := by omega
                  have pqj : (0 : Int) ≤ (a : Int) := by omega
                  have bqj : (a : Int) < (d.size : Int) := by omega
                  have rqj : IntKind.i64.wrap ((a : Int)) = (a : Int) := by rw [IntKind.wrap_i64]; omega
                  obtain ⟨xq, hxq⟩ : ∃ x, x = d1[j]! := ⟨_, rfl⟩
                  obtain ⟨yq, hyq⟩ : ∃ x, x = d1[a]! := ⟨_, rfl⟩
                  have lqa0 : ∀ n os, (grow (wr.drewN n) os).cell? ⟨blk, off + j * 2, none⟩ = some (.int .i64 (it xq).1) := fun n os => by rw [hxq]; exact (SWI.cell0 (T1.out.grown n os) R (DS1.out.trans HS.out) (i := j) (by have := T1z; omega)).1
                  have lqa1 : ∀ n os, (grow (wr.drewN n) os).cell? ⟨blk, off + j * 2 + 1, none⟩ = some (.int .i64 (it xq).2) := fun n os => by rw [hxq]; exact (SWI.cell1 (T1.out.grown n os) R (DS1.out.trans HS.out) (i := j) (by have := T1z; omega)).1
                  have lqb0 : ∀ n os, (grow (wr.drewN n) os).cell? ⟨blk, off + a * 2, none⟩ = some (.int .i64 (it yq).1) := fun n os => by rw [hyq]; exact (SWI.cell0 (T1.out.grown n os) R (DS1.out.trans HS.out) (i := a) (by have := T1z; omega)).1
                  have lqb1 : ∀ n os, (grow (wr.drewN n) os).cell? ⟨blk, off + a * 2 + 1, none⟩ = some (.int .i64 (it yq).2) := fun n os => by rw [hyq]; exact (SWI.cell1 (T1.out.grown n os) R (DS1.out.trans HS.out) (i := a) (by have := T1z; omega)).1
                  have hcq := SWI.cmp T1.out R C xq yq
                  have hdq : decide (cfI s zs it xq yq < 0) = false := by rw [hxq, hyq]; exact hlv
                  have hvq : ¬ cfI s zs it xq yq < 0 := of_decide_eq_false hdq
                  have SG : Hid (∀ n os, SWK (encI it) 2 w0 blk off d1 (grow (wr.drewN n) os)) := hide fun n os => T1.out.grown n os
                  obtain ⟨cvq, hcvq⟩ : ∃ z, z = cfI s zs it xq yq := ⟨_, rfl⟩
                  rw [← hcvq] at hcq hdq hvq
                  clear hxq hyq hcvq
                  go_wp2_with fail
                  go_quiet_grown (first | (go_at_call 26; refine Calls.grown_of (hcq _ _)))
                  have S2 : Hid (SWK (encI it) 2 w0 blk off d1 (grow (wr.drewN nq) osq)) := hide (SG.out nq osq)
                  clear lqa0 lqa1 lqb0 lqb1 hcq SG
                  go_wp2_with fail
                  go_meet
                  case rel => exact ⟨by simp [hle, hlv], S2⟩
              · have hlez : ¬ (i : Int) ≤ (j : Int) := by omega
                have hled : decide ((i : Int) ≤ (j : Int)) = false := decide_eq_false hlez
                have S2 : Hid (SWK (encI it) 2 w0 blk off d1 wr.drew) := hide T1.out.drew
                go_wp2_with fail
                go_big_region_o
                go_wp2_with fail
                go_meet
                case rel => exact ⟨by simp [hle], S2⟩
            case rest =>
              obtain ⟨hsv, S2⟩ := hcut
              subst hsv
              cases hbb : (decide (i ≤ j) && !ltOf (cfI s zs it) d1[j]! d1[a]!) with
              | true =>
                have hb2 : i ≤ j ∧ ltOf (cfI s zs it) d1[j]! d1[a]! = false := by simpa using hbb
                have HN : Hid (scanDown (fun x => !ltOf (cfI s zs it) x d1[a]!) d1 i (j - 1) = scanDown (fun x => !ltOf (cfI s zs it) x d1[a]!) d1 i bp) := hide (by rw [← HE.out]; exact (scanDown_go _ d1 i j hb2.1 (by omega) (by simp [hb2.2])).symm)
                have hle2 := hb2.1
                clear hbb hb2
                go_wp2_with fail
                go_roundw
                case rel => first | exact ⟨j - 1, by go_num, by omega, by omega, S2, HN⟩ | ((repeat apply Exists.intro); exact ⟨⟨j - 1, by go_num, by omega, by omega, S2, HN⟩, rfl⟩)
                case measure => simp [intOf]; omega
              | false =>
                have HJD : Hid (j = scanDown (fun x => !ltOf (cfI s zs it) x d1[a]!) d1 i bp) := hide (by
                  rw [← HE.out]
                  refine (scanDown_end _ d1 i j ?_).symm
                  rcases Bool.and_eq_false_iff.1 hbb with h | h
                  · exact .inl (by simpa using h)
                  · exact .inr h)
                clear hbb HE T1
                obtain ⟨wD, hwD⟩ : ∃ w0 : World, w0 = wc := ⟨_, rfl⟩
                rw [← hwD] at S2 ⊢
                clear hwD
                have SD := S2
                clear S2
                by_cases hgt : j < i
                · have hgtz : (j : Int) < (i : Int) := by omega
                  have HP : Hid (partition (ltOf (cfI s zs it)) d a (bp + 1) pv = (j, true, swp d1 j a)) := hide (part_first_break _ d a (bp + 1) pv rfl (by omega) HD1.out HIU.out HJD.out hgt)
                  have SDz : d1.size = d.size := DS1.out
                  by_cases hja : j = a
                  · subst hja
                    have esi : ((j : Int)).toNat = j := by omega
                    have psi : (0 : Int) ≤ (j : Int) := by omega
                    have bsi : (j : Int) < (d.size : Int) := by omega
                    have rsi : IntKind.i64.wrap ((j : Int)) = (j : Int) := by rw [IntKind.wrap_i64]; omega
                    have S3 : Hid _ := hide (SWI.swapped SD.out R (j) (j) (by have := SDz; omega) (by have := SDz; omega))
                    obtain ⟨cs1, fs1⟩ := SWI.cell0 SD.out R (DS1.out.trans HS.out) (i := j) (by have := SDz; omega)
                    obtain ⟨cs1b, fs1b⟩ := SWI.cell1 SD.out R (DS1.out.trans HS.out) (i := j) (by have := SDz; omega)
                    obtain ⟨cs3, fs3⟩ := SWI.cell0 SD.out R (DS1.out.trans HS.out) (i := j) (by have := SDz; omega)
                    obtain ⟨cs3b, fs3b⟩ := SWI.cell1 SD.out R (DS1.out.trans HS.out) (i := j) (by have := SDz; omega)
                    obtain ⟨xs1, hxs1⟩ : ∃ x, x = d1[j]! := ⟨_, rfl⟩
                    rw [← hxs1] at S3 cs1 cs1b cs3 cs3b
                    clear hxs1
                    go_wp2_with fail
                    go_big_region_o
                    clear cs1 cs1b cs3 cs3b fs1 fs1b fs3 fs3b
                    generalize World.drew _ = w3 at S3 ⊢
                    go_wp2
                    go_ret2
                    exact ⟨by rw [HP.out]; rfl, by rw [HP.out]; exact S3.out⟩
                  · have hja2 : a < j := by omega
                    have esi : ((j : Int)).toNat = j := by omega
                    have psi : (0 : Int) ≤ (j : Int) := by omega
                    have bsi : (j : Int) < (d.size : Int) := by omega
                    have rsi : IntKind.i64.wrap ((j : Int)) = (j : Int) := by rw [IntKind.wrap_i64]; omega
                    have esj : ((a : Int)).toNat = a := by omega
                    have psj : (0 : Int) ≤ (a : Int) := by omega
                    have bsj : (a : Int) < (d.size : Int) := by omega
                    have rsj : IntKind.i64.wrap ((a : Int)) = (a : Int) := by rw [IntKind.wrap_i64]; omega
                    have S3 : Hid _ := hide (SWI.swapped SD.out R (j) (a) (by have := SDz; omega) (by have := SDz; omega))
                    obtain ⟨cs1, fs1⟩ := SWI.cell0 SD.out R (DS1.out.trans HS.out) (i := j) (by have := SDz; omega)
                    obtain ⟨cs1b, fs1b⟩ := SWI.cell1 SD.out R (DS1.out.trans HS.out) (i := j) (by have := SDz; omega)
                    obtain ⟨cs3, fs3⟩ := SWI.cell0 SD.out R (DS1.out.trans HS.out) (i := a) (by have := SDz; omega)
                    obtain ⟨cs3b, fs3b⟩ := SWI.cell1 SD.out R (DS1.out.trans HS.out) (i := a) (by have := SDz; omega)
                    obtain ⟨xs1, hxs1⟩ : ∃ x, x = d1[j]! := ⟨_, rfl⟩
                    obtain ⟨xs3, hxs3⟩ : ∃ x, x = d1[a]! := ⟨_, rfl⟩
                    rw [← hxs1] at S3 cs1 cs1b
                    rw [← hxs3] at S3 cs3 cs3b
                    clear hxs1 hxs3
                    go_wp2_with fail
                    go_big_region_o
                    clear cs1 cs1b cs3 cs3b fs1 fs1b fs3 fs3b
                    generalize World.drew _ = w3 at S3 ⊢
                    go_wp2
                    go_ret2
                    exact ⟨by rw [HP.out]; rfl, by rw [HP.out]; exact S3.out⟩
                · have hgtz : ¬ (j : Int) < (i : Int) := by omega
                  have hlt : i < j := part_scans_lt _ a (a + 1) bp d1 (by omega) HIU.out HJD.out (by omega)
                  obtain ⟨PL, hPL⟩ : ∃ PL, PL = partLoop (ltOf (cfI s zs it)) a (i + 1) (j - 1) (swp d1 i j) := ⟨_, rfl⟩
                  have HL0 : Hid (partition (ltOf (cfI s zs it)) d a (bp + 1) pv = (PL.1, false, swp PL.2 PL.1 a)) := hide (by rw [hPL]; exact part_first_go _ d a (bp + 1) pv rfl (by omega) HD1.out HIU.out HJD.out (by omega))
                  have HPL0 := hide hPL
                  clear hPL
                  have SDz : d1.size = d.size := DS1.out
                  have esi : ((i : Int)).toNat = i := by omega
                  have psi : (0 : Int) ≤ (i : Int) := by omega
                  have bsi : (i : Int) < (d.size : Int) := by omega
                  have rsi : IntKind.i64.wrap ((i : Int)) = (i : Int) := by rw [IntKind.wrap_i64]; omega
                  have esj : ((j : Int)).toNat = j := by omega
                  have psj : (0 : Int) ≤ (j : Int) := by omega
                  have bsj : (j : Int) < (d.size : Int) := by omega
                  have rsj : IntKind.i64.wrap ((j : Int)) = (j : Int) := by rw [IntKind.wrap_i64]; omega
                  have S3 : Hid _ := hide (SWI.swapped SD.out R (i) (j) (by have := SDz; omega) (by have := SDz; omega))
                  obtain ⟨cs1, fs1⟩ := SWI.cell0 SD.out R (DS1.out.trans HS.out) (i := i) (by have := SDz; omega)
                  obtain ⟨cs1b, fs1b⟩ := SWI.cell1 SD.out R (DS1.out.trans HS.out) (i := i) (by have := SDz; omega)
                  obtain ⟨cs3, fs3⟩ := SWI.cell0 SD.out R (DS1.out.trans HS.out) (i := j) (by have := SDz; omega)
                  obtain ⟨cs3b, fs3b⟩ := SWI.cell1 SD.out R (DS1.out.trans HS.out) (i := j) (by have := SDz; omega)
                  obtain ⟨xs1, hxs1⟩ : ∃ x, x = d1[i]! := ⟨_, rfl⟩
                  obtain ⟨xs3, hxs3⟩ : ∃ x, x = d1[j]! := ⟨_, rfl⟩
                  rw [← hxs1] at S3 cs1 cs1b
                  rw [← hxs3] at S3 cs3 cs3b
                  clear hxs1 hxs3
                  go_wp2_with fail
                  go_big_region_o
                  clear cs1 cs1b cs3 cs3b fs1 fs1b fs3 fs3b
                  generalize World.drew _ = w3 at S3 ⊢
                  go_wp2_with fail
                  go_loopw [12, 13] (fun vi vj wr => ∃ (i3 j3 : Nat) (dk : Array α), vi = .int .i64 i3 ∧ vj = .int .i64 j3 ∧ a < i3 ∧ i3 ≤ j3 + 1 ∧ j3 ≤ bp ∧ Hid (SWK (encI it) 2 w0 blk off dk wr) ∧ Hid (dk.size = d.size) ∧ Hid (partLoop (ltOf (cfI s zs it)) a i3 j3 dk = PL)) (fun vi vj _ => (intOf vj).toNat + 1 - (intOf vi).toNat)
                  case atStart => exact ⟨i + 1, j - 1, swp d1 i j, by go_num, by go_num, by omega, by omega, by omega, S3, hide (by rw [size_swp]; exact DS1.out), hide HPL0.out.symm⟩
                  case round =>
                    clear S3 SDz HIU HJD hij hij2 hjJ hai hlo hlt hgt hgtz
                    obtain ⟨i3, j3, dk, rfl, rfl, hai3, hij3, hjb3, T3, DSk, HPL⟩ := hrel
                    obtain ⟨wE, hwE⟩ : ∃ w0 : World, w0 = wr := ⟨_, rfl⟩
                    rw [← hwE] at T3 ⊢
                    clear hwE
                    go_wp2_with fail
                    go_loopw [12] (fun vi wr => ∃ i : Nat, vi = .int .i64 i ∧ i3 ≤ i ∧ i ≤ j3 + 1 ∧ Hid (SWK (encI it) 2 w0 blk off dk wr) ∧ Hid (scanUp (fun x => ltOf (cfI s zs it) x dk[a]!) dk j3 i = scanUp (fun x => ltOf (cfI s zs it) x dk[a]!) dk j3 (i3))) (fun vi _ => j3 + 2 - (intOf vi).toNat)
                    case atStart => exact ⟨i3, by first | rfl | go_num, Nat.le_refl _, by omega, T3, hide rfl⟩
                    case round =>
                      clear T3
                      obtain ⟨i, rfl, hlo, hij, T1, HE⟩ := hrel
                      have hai : a < i := by omega
                      have T1z : dk.size = d.size := DSk.out
                      go_upto_region 13 with fail
                      go_cut [120] (fun sv wx => sv = .bool (decide (i ≤ j3) && ltOf (cfI s zs it) dk[i]! dk[a]!) ∧ Hid (SWK (encI it) 2 w0 blk off dk wx))
                      case first =>
                        by_cases hle : i ≤ j3
                        · have hlez : (i : Int) ≤ (j3 : Int) := by omega
                          have hled : decide ((i : Int) ≤ (j3 : Int)) = true := decide_eq_true hlez
                          cases hlv : ltOf (cfI s zs it) dk[i]! dk[a]! with
                          | true =>
                            have eqi : ((i : Int)).toNat = i := by omega
                            have pqi : (0 : Int) ≤ (i : Int) := by omega
                            have bqi : (i : Int) < (d.size : Int) := by omega
                            have rqi : IntKind.i64.wrap ((i : Int)) = (i : Int) := by rw [IntKind.wrap_i64]; omega
                            have eqj : ((a : Int)).toNat = a := by omega
                            have pqj : (0 : Int) ≤ (a : Int) := by omega
                            have bqj : (a : Int) < (d.size : Int) := by omega
                            have rqj : IntKind.i64.wrap ((a : Int)) = (a : Int) := by rw [IntKind.wrap_i64]; omega
                            obtain ⟨xq, hxq⟩ : ∃ x, x = dk[i]! := ⟨_, rfl⟩
                            obtain ⟨yq, hyq⟩ : ∃ x, x = dk[a]! := ⟨_, rfl⟩
                            have lqa0 : ∀ n os, (grow (wr.drewN n) os).cell? ⟨blk, off + i * 2, none⟩ = some (.int .i64 (it xq).1) := fun n os => by rw [hxq]; exact (SWI.cell0 (T1.out.grown n os) R (DSk.out.trans HS.out) (i := i) (by have := T1z; omega)).1
                            have lqa1 : ∀ n os, (grow (wr.drewN n) os).cell? ⟨blk, off + i * 2 + 1, none⟩ = some (.int .i64 (it xq).2) := fun n os => by rw [hxq]; exact (SWI.cell1 (T1.out.grown n os) R (DSk.out.trans HS.out) (i := i) (by have := T1z; omega)).1
                            have lqb0 : ∀ n os, (grow (wr.drewN n) os).cell? ⟨blk, off + a * 2, none⟩ = some (.int .i64 (it yq).1) := fun n os => by rw [hyq]; exact (SWI.cell0 (T1.out.grown n os) R (DSk.out.trans HS.out) (i := a) (by have := T1z; omega)).1
                            have lqb1 : ∀ n os, (grow (wr.drewN n) os).cell? ⟨blk, off + a * 2 + 1, none⟩ = some (.int .i64 (it yq).2) := fun n os => by rw [hyq]; exact (SWI.cell1 (T1.out.grown n os) R (DSk.out.trans HS.out) (i := a) (by have := T1z; omega)).1
                            have hcq := SWI.cmp T1.out R C xq yq
                            have hdq : decide (cfI s zs it xq yq < 0) = true := by rw [hxq, hyq]; exact hlv
                            have hvq : cfI s zs it xq yq < 0 := of_decide_eq_true hdq
                            have SG : Hid (∀ n os, SWK (encI it) 2 w0 blk off dk (grow (wr.drewN n) os)) := hide fun n os => T1.out.grown n os
                            obtain ⟨cvq, hcvq⟩ : ∃ z, z = cfI s zs it xq yq := ⟨_, rfl⟩
                            rw [← hcvq] at hcq hdq hvq
                            clear hxq hyq hcvq
                            go_wp2_with fail
                            go_quiet_grown (first | (go_at_call 26; refine Calls.grown_of (hcq _ _)))
                            have S2 : Hid (SWK (encI it) 2 w0 blk off dk (grow (wr.drewN nq) osq)) := hide (SG.out nq osq)
                            clear lqa0 lqa1 lqb0 lqb1 hcq SG
                            go_wp2_with fail
                            go_meet
                            case rel => exact ⟨by simp [hle, hlv], S2⟩
                          | false =>
                            have eqi : ((i : Int)).toNat = i := by omega
                            have pqi : (0 : Int) ≤ (i : Int) := by omega
                            have bqi : (i : Int) < (d.size : Int) := by omega
                            have rqi : IntKind.i64.wrap ((i : Int)) = (i : Int) := by rw [IntKind.wrap_i64]; omega
                            have eqj : ((a : Int)).toNat = a := by omega
                            have pqj : (0 : Int) ≤ (a : Int) := by omega
                            have bqj : (a : Int) < (d.size : Int) := by omega
                            have rqj : IntKind.i64.wrap ((a : Int)) = (a : Int) := by rw [IntKind.wrap_i64]; omega
                            obtain ⟨xq, hxq⟩ : ∃ x, x = dk[i]! := ⟨_, rfl⟩
                            obtain ⟨yq, hyq⟩ : ∃ x, x = dk[a]! := ⟨_, rfl⟩
                            have lqa0 : ∀ n os, (grow (wr.drewN n) os).cell? ⟨blk, off + i * 2, none⟩ = some (.int .i64 (it xq).1) := fun n os => by rw [hxq]; exact (SWI.cell0 (T1.out.grown n os) R (DSk.out.trans HS.out) (i := i) (by have := T1z; omega)).1
                            have lqa1 : ∀ n os, (grow (wr.drewN n) os).cell? ⟨blk, off + i * 2 + 1, none⟩ = some (.int .i64 (it xq).2) := fun n os => by rw [hxq]; exact (SWI.cell1 (T1.out.grown n os) R (DSk.out.trans HS.out) (i := i) (by have := T1z; omega)).1
                            have lqb0 : ∀ n os, (grow (wr.drewN n) os).cell? ⟨blk, off + a * 2, none⟩ = some (.int .i64 (it yq).1) := fun n os => by rw [hyq]; exact (SWI.cell0 (T1.out.grown n os) R (DSk.out.trans HS.out) (i := a) (by have := T1z; omega)).1
                            have lqb1 : ∀ n os, (grow (wr.drewN n) os).cell? ⟨blk, off + a * 2 + 1, none⟩ = some (.int .i64 (it yq).2) := fun n os => by rw [hyq]; exact (SWI.cell1 (T1.out.grown n os) R (DSk.out.trans HS.out) (i := a) (by have := T1z; omega)).1
                            have hcq := SWI.cmp T1.out R C xq yq
                            have hdq : decide (cfI s zs it xq yq < 0) = false := by rw [hxq, hyq]; exact hlv
                            have hvq : ¬ cfI s zs it xq yq < 0 := of_decide_eq_false hdq
                            have SG : Hid (∀ n os, SWK (encI it) 2 w0 blk off dk (grow (wr.drewN n) os)) := hide fun n os => T1.out.grown n os
                            obtain ⟨cvq, hcvq⟩ : ∃ z, z = cfI s zs it xq yq := ⟨_, rfl⟩
                            rw [← hcvq] at hcq hdq hvq
                            clear hxq hyq hcvq
                            go_wp2_with fail
                            go_quiet_grown (first | (go_at_call 26; refine Calls.grown_of (hcq _ _)))
                            have S2 : Hid (SWK (encI it) 2 w0 blk off dk (grow (wr.drewN nq) osq)) := hide (SG.out nq osq)
                            clear lqa0 lqa1 lqb0 lqb1 hcq SG
                            go_wp2_with fail
                            go_meet
                            case rel => exact ⟨by simp [hle, hlv], S2⟩
                        · have hlez : ¬ (i : Int) ≤ (j3 : Int) := by omega
                          have hled : decide ((i : Int) ≤ (j3 : Int)) = false := decide_eq_false hlez
                          have S2 : Hid (SWK (encI it) 2 w0 blk off dk wr.drew) := hide T1.out.drew
                          go_wp2_with fail
                          go_big_region_o
                          go_wp2_with fail
                          go_meet
                          case rel => exact ⟨by simp [hle], S2⟩
                      case rest =>
                        obtain ⟨hsv, S2⟩ := hcut
                        subst hsv
                        cases hbb : (decide (i ≤ j3) && ltOf (cfI s zs it) dk[i]! dk[a]!) with
                        | true =>
                          have hb2 : i ≤ j3 ∧ ltOf (cfI s zs it) dk[i]! dk[a]! = true := by simpa using hbb
                          have HN : Hid (scanUp (fun x => ltOf (cfI s zs it) x dk[a]!) dk j3 (i + 1) = scanUp (fun x => ltOf (cfI s zs it) x dk[a]!) dk j3 (i3)) := hide (by rw [← HE.out]; exact (scanUp_go _ dk _ i hb2.1 hb2.2).symm)
                          have hle2 := hb2.1
                          clear hbb hb2
                          go_wp2_with fail
                          go_roundw
                          case rel => first | exact ⟨i + 1, by go_num, by omega, by omega, S2, HN⟩ | ((repeat apply Exists.intro); exact ⟨⟨i + 1, by go_num, by omega, by omega, S2, HN⟩, rfl⟩)
                          case measure => simp [intOf]; omega
                        | false =>
                          have HIU : Hid (i = scanUp (fun x => ltOf (cfI s zs it) x dk[a]!) dk j3 (i3)) := hide (by
                            rw [← HE.out]
                            refine (scanUp_end _ dk _ i ?_).symm
                            rcases Bool.and_eq_false_iff.1 hbb with h | h
                            · exact .inl (by simpa using h)
                            · exact .inr h)
                          clear hbb HE T1
                          obtain ⟨wU, hwU⟩ : ∃ w0 : World, w0 = wc := ⟨_, rfl⟩
                          rw [← hwU] at S2 ⊢
                          clear hwU
                          have SU := S2
                          clear S2
                          go_wp2_with fail
                          go_loopw [13] (fun vj wr => ∃ j : Nat, vj = .int .i64 j ∧ j ≤ j3 ∧ i ≤ j + 1 ∧ Hid (SWK (encI it) 2 w0 blk off dk wr) ∧ Hid (scanDown (fun x => !ltOf (cfI s zs it) x dk[a]!) dk i j = scanDown (fun x => !ltOf (cfI s zs it) x dk[a]!) dk i j3)) (fun vj _ => (intOf vj).toNat + 1)
                          case atStart => exact ⟨j3, rfl, Nat.le_refl _, by omega, SU, hide rfl⟩
                          case round =>
                            clear SU
                            obtain ⟨j, rfl, hjJ, hij2, T1, HE⟩ := hrel
                            have T1z : dk.size = d.size := DSk.out
                            go_upto_region 15 with fail
                            go_cut [139] (fun sv wx => sv = .bool (decide (i ≤ j) && !ltOf (cfI s zs it) dk[j]! dk[a]!) ∧ Hid (SWK (encI it) 2 w0 blk off dk wx))
                            case first =>
                              by_cases hle : i ≤ j
                              · have hlez : (i : Int) ≤ (j : Int) := by omega
                                have hled : decide ((i : Int) ≤ (j : Int)) = true := decide_eq_true hlez
                                cases hlv : ltOf (cfI s zs it) dk[j]! dk[a]! with
                                | true =>
                                  have eqi : ((j : Int)).toNat = j := by omega
                                  have pqi : (0 : Int) ≤ (j : Int) := by omega
                                  have bqi : (j : Int) < (d.size : Int) := by omega
                                  have rqi : IntKind.i64.wrap ((j : Int)) = (j : Int) := by rw [IntKind.wrap_i64]; omega
                                  have eqj : ((a : Int)).toNat = a := by omega
                                  have pqj : (0 : Int) ≤ (a : Int) := by omega
                                  have bqj : (a : Int) < (d.size : Int) := by omega
                                  have rqj : IntKind.i64.wrap ((a : Int)) = (a : Int) := by rw [IntKind.wrap_i64]; omega
                                  obtain ⟨xq, hxq⟩ : ∃ x, x = dk[j]! := ⟨_, rfl⟩
                                  obtain ⟨yq, hyq⟩ : ∃ x, x = dk[a]! := ⟨_, rfl⟩
                                  have lqa0 : ∀ n os, (grow (wr.drewN n) os).cell? ⟨blk, off + j * 2, none⟩ = some (.int .i64 (it xq).1) := fun n os => by rw [hxq]; exact (SWI.cell0 (T1.out.grown n os) R (DSk.out.trans HS.out) (i := j) (by have := T1z; omega)).1
                                  have lqa1 : ∀ n os, (grow (wr.drewN n) os).cell? ⟨blk, off + j * 2 + 1, none⟩ = some (.int .i64 (it xq).2) := fun n os => by rw [hxq]; exact (SWI.cell1 (T1.out.grown n os) R (DSk.out.trans HS.out) (i := j) (by have := T1z; omega)).1
                                  have lqb0 : ∀ n os, (grow (wr.drewN n) os).cell? ⟨blk, off + a * 2, none⟩ = some (.int .i64 (it yq).1) := fun n os => by rw [hyq]; exact (SWI.cell0 (T1.out.grown n os) R (DSk.out.trans HS.out) (i := a) (by have := T1z; omega)).1
                                  have lqb1 : ∀ n os, (grow (wr.drewN n) os).cell? ⟨blk, off + a * 2 + 1, none⟩ = some (.int .i64 (it yq).2) := fun n os => by rw [hyq]; exact (SWI.cell1 (T1.out.grown n os) R (DSk.out.trans HS.out) (i := a) (by have := T1z; omega)).1
                                  have hcq := SWI.cmp T1.out R C xq yq
                                  have hdq : decide (cfI s zs it xq yq < 0) = true := by rw [hxq, hyq]; exact hlv
                                  have hvq : cfI s zs it xq yq < 0 := of_decide_eq_true hdq
                                  have SG : Hid (∀ n os, SWK (encI it) 2 w0 blk off dk (grow (wr.drewN n) os)) := hide fun n os => T1.out.grown n os
                                  obtain ⟨cvq, hcvq⟩ : ∃ z, z = cfI s zs it xq yq := ⟨_, rfl⟩
                                  rw [← hcvq] at hcq hdq hvq
                                  clear hxq hyq hcvq
                                  go_wp2_with fail
                                  go_quiet_grown (first | (go_at_call 26; refine Calls.grown_of (hcq _ _)))
                                  have S2 : Hid (SWK (encI it) 2 w0 blk off dk (grow (wr.drewN nq) osq)) := hide (SG.out nq osq)
                                  clear lqa0 lqa1 lqb0 lqb1 hcq SG
                                  go_wp2_with fail
                                  go_meet
                                  case rel => exact ⟨by simp [hle, hlv], S2⟩
                                | false =>
                                  have eqi : ((j : Int)).toNat = j := by omega
                                  have pqi : (0 : Int) ≤ (j : Int) := by omega
                                  have bqi : (j : Int) < (d.size : Int) := by omega
                                  have rqi : IntKind.i64.wrap ((j : Int)) = (j : Int) := by rw [IntKind.wrap_i64]; omega
                                  have eqj : ((a : Int)).toNat = a := by omega
                                  have pqj : (0 : Int) ≤ (a : Int) := by omega
                                  have bqj : (a : Int) < (d.size : Int) := by omega
                                  have rqj : IntKind.i64.wrap ((a : Int)) = (a : Int) := by rw [IntKind.wrap_i64]; omega
                                  obtain ⟨xq, hxq⟩ : ∃ x, x = dk[j]! := ⟨_, rfl⟩
                                  obtain ⟨yq, hyq⟩ : ∃ x, x = dk[a]! := ⟨_, rfl⟩
                                  have lqa0 : ∀ n os, (grow (wr.drewN n) os).cell? ⟨blk, off + j * 2, none⟩ = some (.int .i64 (it xq).1) := fun n os => by rw [hxq]; exact (SWI.cell0 (T1.out.grown n os) R (DSk.out.trans HS.out) (i := j) (by have := T1z; omega)).1
                                  have lqa1 : ∀ n os, (grow (wr.drewN n) os).cell? ⟨blk, off + j * 2 + 1, none⟩ = some (.int .i64 (it xq).2) := fun n os => by rw [hxq]; exact (SWI.cell1 (T1.out.grown n os) R (DSk.out.trans HS.out) (i := j) (by have := T1z; omega)).1
                                  have lqb0 : ∀ n os, (grow (wr.drewN n) os).cell? ⟨blk, off + a * 2, none⟩ = some (.int .i64 (it yq).1) := fun n os => by rw [hyq]; exact (SWI.cell0 (T1.out.grown n os) R (DSk.out.trans HS.out) (i := a) (by have := T1z; omega)).1
                                  have lqb1 : ∀ n os, (grow (wr.drewN n) os).cell? ⟨blk, off + a * 2 + 1, none⟩ = some (.int .i64 (it yq).2) := fun n os => by rw [hyq]; exact (SWI.cell1 (T1.out.grown n os) R (DSk.out.trans HS.out) (i := a) (by have := T1z; omega)).1
                                  have hcq := SWI.cmp T1.out R C xq yq
                                  have hdq : decide (cfI s zs it xq yq < 0) = false := by rw [hxq, hyq]; exact hlv
                                  have hvq : ¬ cfI s zs it xq yq < 0 := of_decide_eq_false hdq
                                  have SG : Hid (∀ n os, SWK (encI it) 2 w0 blk off dk (grow (wr.drewN n) os)) := hide fun n os => T1.out.grown n os
                                  obtain ⟨cvq, hcvq⟩ : ∃ z, z = cfI s zs it xq yq := ⟨_, rfl⟩
                                  rw [← hcvq] at hcq hdq hvq
                                  clear hxq hyq hcvq
                                  go_wp2_with fail
                                  go_quiet_grown (first | (go_at_call 26; refine Calls.grown_of (hcq _ _)))
                                  have S2 : Hid (SWK (encI it) 2 w0 blk off dk (grow (wr.drewN nq) osq)) := hide (SG.out nq osq)
                                  clear lqa0 lqa1 lqb0 lqb1 hcq SG
                                  go_wp2_with fail
                                  go_meet
                                  case rel => exact ⟨by simp [hle, hlv], S2⟩
                              · have hlez : ¬ (i : Int) ≤ (j : Int) := by omega
                                have hled : decide ((i : Int) ≤ (j : Int)) = false := decide_eq_false hlez
                                have S2 : Hid (SWK (encI it) 2 w0 blk off dk wr.drew) := hide T1.out.drew
                                go_wp2_with fail
                                go_big_region_o
                                go_wp2_with fail
                                go_meet
                                case rel => exact ⟨by simp [hle], S2⟩
                            case rest =>
                              obtain ⟨hsv, S2⟩ := hcut
                              subst hsv
                              cases hbb : (decide (i ≤ j) && !ltOf (cfI s zs it) dk[j]! dk[a]!) with
                              | true =>
                                have hb2 : i ≤ j ∧ ltOf (cfI s zs it) dk[j]! dk[a]! = false := by simpa using hbb
                                have HN : Hid (scanDown (fun x => !ltOf (cfI s zs it) x dk[a]!) dk i (j - 1) = scanDown (fun x => !ltOf (cfI s zs it) x dk[a]!) dk i j3) := hide (by rw [← HE.out]; exact (scanDown_go _ dk i j hb2.1 (by omega) (by simp [hb2.2])).symm)
                                have hle2 := hb2.1
                                clear hbb hb2
                                go_wp2_with fail
                                go_roundw
                                case rel => first | exact ⟨j - 1, by go_num, by omega, by omega, S2, HN⟩ | ((repeat apply Exists.intro); exact ⟨⟨j - 1, by go_num, by omega, by omega, S2, HN⟩, rfl⟩)
                                case measure => simp [intOf]; omega
                              | false =>
                                have HJD : Hid (j = scanDown (fun x => !ltOf (cfI s zs it) x dk[a]!) dk i j3) := hide (by
                                  rw [← HE.out]
                                  refine (scanDown_end _ dk i j ?_).symm
                                  rcases Bool.and_eq_false_iff.1 hbb with h | h
                                  · exact .inl (by simpa using h)
                                  · exact .inr h)
                                clear hbb HE T1
                                obtain ⟨wD, hwD⟩ : ∃ w0 : World, w0 = wc := ⟨_, rfl⟩
                                rw [← hwD] at S2 ⊢
                                clear hwD
                                have SD := S2
                                clear S2
                                by_cases hgt : j < i
                                · have hgtz : (j : Int) < (i : Int) := by omega
                                  have HP : Hid (partition (ltOf (cfI s zs it)) d a (bp + 1) pv = (j, false, swp dk j a)) := hide (by rw [HL0.out, ← HPL.out, part_break _ a i3 j3 dk HIU.out HJD.out hgt])
                                  have SDz : dk.size = d.size := DSk.out
                                  by_cases hja : j = a
                                  · subst hja
                                    have esi : ((j : Int)).toNat = j := by omega
                                    have psi : (0 : Int) ≤ (j : Int) := by omega
                                    have bsi : (j : Int) < (d.size : Int) := by omega
                                    have rsi : IntKind.i64.wrap ((j : Int)) = (j : Int) := by rw [IntKind.wrap_i64]; omega
                                    have S3 : Hid _ := hide (SWI.swapped SD.out R (j) (j) (by have := SDz; omega) (by have := SDz; omega))
                                    obtain ⟨cs1, fs1⟩ := SWI.cell0 SD.out R (DSk.out.trans HS.out) (i := j) (by have := SDz; omega)
                                    obtain ⟨cs1b, fs1b⟩ := SWI.cell1 SD.out R (DSk.out.trans HS.out) (i := j) (by have := SDz; omega)
                                    obtain ⟨cs3, fs3⟩ := SWI.cell0 SD.out R (DSk.out.trans HS.out) (i := j) (by have := SDz; omega)
                                    obtain ⟨cs3b, fs3b⟩ := SWI.cell1 SD.out R (DSk.out.trans HS.out) (i := j) (by have := SDz; omega)
                                    obtain ⟨xs1, hxs1⟩ : ∃ x, x = dk[j]! := ⟨_, rfl⟩
                                    rw [← hxs1] at S3 cs1 cs1b cs3 cs3b
                                    clear hxs1
                                    go_wp2_with fail
                                    go_big_region_o
                                    clear cs1 cs1b cs3 cs3b fs1 fs1b fs3 fs3b
                                    generalize World.drew _ = w3 at S3 ⊢
                                    go_wp2
                                    go_ret2
                                    exact ⟨by rw [HP.out]; rfl, by rw [HP.out]; exact S3.out⟩
                                  · have hja2 : a < j := by omega
                                    have esi : ((j : Int)).toNat = j := by omega
                                    have psi : (0 : Int) ≤ (j : Int) := by omega
                                    have bsi : (j : Int) < (d.size : Int) := by omega
                                    have rsi : IntKind.i64.wrap ((j : Int)) = (j : Int) := by rw [IntKind.wrap_i64]; omega
                                    have esj : ((a : Int)).toNat = a := by omega
                                    have psj : (0 : Int) ≤ (a : Int) := by omega
                                    have bsj : (a : Int) < (d.size : Int) := by omega
                                    have rsj : IntKind.i64.wrap ((a : Int)) = (a : Int) := by rw [IntKind.wrap_i64]; omega
                                    have S3 : Hid _ := hide (SWI.swapped SD.out R (j) (a) (by have := SDz; omega) (by have := SDz; omega))
                                    obtain ⟨cs1, fs1⟩ := SWI.cell0 SD.out R (DSk.out.trans HS.out) (i := j) (by have := SDz; omega)
                                    obtain ⟨cs1b, fs1b⟩ := SWI.cell1 SD.out R (DSk.out.trans HS.out) (i := j) (by have := SDz; omega)
                                    obtain ⟨cs3, fs3⟩ := SWI.cell0 SD.out R (DSk.out.trans HS.out) (i := a) (by have := SDz; omega)
                                    obtain ⟨cs3b, fs3b⟩ := SWI.cell1 SD.out R (DSk.out.trans HS.out) (i := a) (by have := SDz; omega)
                                    obtain ⟨xs1, hxs1⟩ : ∃ x, x = dk[j]! := ⟨_, rfl⟩
                                    obtain ⟨xs3, hxs3⟩ : ∃ x, x = dk[a]! := ⟨_, rfl⟩
                                    rw [← hxs1] at S3 cs1 cs1b
                                    rw [← hxs3] at S3 cs3 cs3b
                                    clear hxs1 hxs3
                                    go_wp2_with fail
                                    go_big_region_o
                                    clear cs1 cs1b cs3 cs3b fs1 fs1b fs3 fs3b
                                    generalize World.drew _ = w3 at S3 ⊢
                                    go_wp2
                                    go_ret2
                                    exact ⟨by rw [HP.out]; rfl, by rw [HP.out]; exact S3.out⟩
                                · have hgtz : ¬ (j : Int) < (i : Int) := by omega
                                  have hlt : i < j := part_scans_lt _ a i3 j3 dk (by omega) HIU.out HJD.out (by omega)
                                  have HG : Hid (partLoop (ltOf (cfI s zs it)) a (i + 1) (j - 1) (swp dk i j) = PL) := hide (by rw [← HPL.out]; exact (part_go _ a i3 j3 dk HIU.out HJD.out (by omega)).symm)
                                  have SDz : dk.size = d.size := DSk.out
                                  have esi : ((i : Int)).toNat = i := by omega
                                  have psi : (0 : Int) ≤ (i : Int) := by omega
                                  have bsi : (i : Int) < (d.size : Int) := by omega
                                  have rsi : IntKind.i64.wrap ((i : Int)) = (i : Int) := by rw [IntKind.wrap_i64]; omega
                                  have esj : ((j : Int)).toNat = j := by omega
                                  have psj : (0 : Int) ≤ (j : Int) := by omega
                                  have bsj : (j : Int) < (d.size : Int) := by omega
                                  have rsj : IntKind.i64.wrap ((j : Int)) = (j : Int) := by rw [IntKind.wrap_i64]; omega
                                  have S3 : Hid _ := hide (SWI.swapped SD.out R (i) (j) (by have := SDz; omega) (by have := SDz; omega))
                                  obtain ⟨cs1, fs1⟩ := SWI.cell0 SD.out R (DSk.out.trans HS.out) (i := i) (by have := SDz; omega)
                                  obtain ⟨cs1b, fs1b⟩ := SWI.cell1 SD.out R (DSk.out.trans HS.out) (i := i) (by have := SDz; omega)
                                  obtain ⟨cs3, fs3⟩ := SWI.cell0 SD.out R (DSk.out.trans HS.out) (i := j) (by have := SDz; omega)
                                  obtain ⟨cs3b, fs3b⟩ := SWI.cell1 SD.out R (DSk.out.trans HS.out) (i := j) (by have := SDz; omega)
                                  obtain ⟨xs1, hxs1⟩ : ∃ x, x = dk[i]! := ⟨_, rfl⟩
                                  obtain ⟨xs3, hxs3⟩ : ∃ x, x = dk[j]! := ⟨_, rfl⟩
                                  rw [← hxs1] at S3 cs1 cs1b
                                  rw [← hxs3] at S3 cs3 cs3b
                                  clear hxs1 hxs3
                                  go_wp2_with fail
                                  go_big_region_o
                                  clear cs1 cs1b cs3 cs3b fs1 fs1b fs3 fs3b
                                  generalize World.drew _ = w3 at S3 ⊢
                                  go_wp2_with fail
                                  go_roundw
                                  case rel => first | exact ⟨i + 1, j - 1, swp dk i j, by go_num, by go_num, by omega, by omega, by omega, S3, hide (by rw [size_swp]; exact DSk.out), HG⟩ | ((repeat apply Exists.intro); exact ⟨⟨i + 1, j - 1, swp dk i j, by go_num, by go_num, by omega, by omega, by omega, S3, hide (by rw [size_swp]; exact DSk.out), HG⟩, rfl⟩)
                                  case measure => simp [intOf]; omega
end Go.Proofs.Ytiocgmeonfanmaa
