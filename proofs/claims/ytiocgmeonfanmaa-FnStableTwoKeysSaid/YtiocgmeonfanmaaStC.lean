/-
  slices.symMergeCmpFunc at items: the general case.
-/
import Derived.Test.YtiocgmeonfanmaaStR
namespace Go.Proofs.Ytiocgmeonfanmaa
open Go.RowKit Go.Sort Go.Shelf
set_option linter.unusedVariables false
set_option linter.unusedSimpArgs false
variable {α : Type} [Inhabited α]

set_option maxHeartbeats 4000000 in
set_option maxRecDepth 1000000 in
theorem symC (it : α → Int × Int) (ix : α → Nat) (s : Int) (A : Option Addr) (l c B : Nat) (zs : List Int) (blk off cap : Nat) (d0 : Array α) (w0 : World) (R : RowK (encI it) 2 w0 blk off d0) (C : CmpB s A l c B zs w0 blk) (hsz : d0.size < 4611686018427387904) (N : Nat)
    (IH : ∀ (a m b : Nat) (d : Array α) (w : World), b - a < N → d.size = d0.size → SWK (encI it) 2 w0 blk off d w → a < m → m < b → b ≤ d0.size →
      Calls Try.prog 55 #[.slice (some ⟨blk, off, none⟩) d0.size cap, .int .i64 a, .int .i64 m, .int .i64 b, .func (.func 26) #[.agg #[.int .i64 s, .slice A l c]] #[]] w fun e w' => e = .returned (.tuple #[]) ∧ ∃ d', SWK (encI it) 2 w0 blk off d' w' ∧ Mrg (ltOf (cfI s zs it)) ix a m b d d')
    (a m b : Nat) (d : Array α) (w : World) (hN : b - a = N) (hs : d.size = d0.size) (S : SWK (encI it) 2 w0 blk off d w) (ham : a + 1 < m) (hmb : m + 1 < b) (hb : b ≤ d0.size) :
    Calls Try.prog 55 #[.slice (some ⟨blk, off, none⟩) d0.size cap, .int .i64 a, .int .i64 m, .int .i64 b, .func (.func 26) #[.agg #[.int .i64 s, .slice A l c]] #[]] w fun e w' => e = .returned (.tuple #[]) ∧ ∃ d', SWK (encI it) 2 w0 blk off d' w' ∧ Mrg (ltOf (cfI s zs it)) ix a m b d d' := by
  have mixed := mixedI
  have eg := egI
  have HS := hide hs
  have HIH := hide IH
  clear hs IH
  have S0 : Hid (SWK (encI it) 2 w0 blk off d w) := S
  clear S
  have hone : ((m : Int) - (a : Int) == 1) = false := by simp; omega
  have hone2 : ((b : Int) - (m : Int) == 1) = false := by simp; omega
  obtain ⟨mid, hmid⟩ : ∃ mid : Nat, ((a : Int) + (b : Int)) / 2 = (mid : Int) := ⟨(a + b) / 2, by omega⟩
  have hm1 : a + 1 < mid := by omega
  have hm2 : mid + 1 < b := by omega
  have hm3 : 2 * mid ≤ a + b := by omega
  have hm4 : a + b ≤ 2 * mid + 1 := by omega
  go_enter Try.func55, Try.ntmps55
  by_cases hmm : mid < m
  · have hmz : (mid : Int) < (m : Int) := by omega
    go_wp2
    go_loopw [20, 21] (fun vs vr wr => ∃ u v : Nat, vs = .int .i64 u ∧ vr = .int .i64 v ∧ (mid + m - b) ≤ u ∧ u ≤ v ∧ v ≤ mid ∧ Hid (SWK (encI it) 2 w0 blk off d wr) ∧ Hid (u = (mid + m - b) ∨ ltOf (cfI s zs it) d[mid + m - u]! d[u - 1]! = false) ∧ Hid (v = mid ∨ ltOf (cfI s zs it) d[mid + m - 1 - v]! d[v]! = true)) (fun vs vr _ => (intOf vr).toNat - (intOf vs).toNat)
    case atStart => exact ⟨(mid + m - b), mid, by first | rfl | go_num, by first | rfl | go_num, Nat.le_refl _, by omega, Nat.le_refl _, S0, hide (.inl rfl), hide (.inl rfl)⟩
    case round =>
      clear S0
      obtain ⟨u, v, rfl, rfl, hu, huv, hv, T1, HL, HR⟩ := hrel
      by_cases hlt : u < v
      · have hltz : (u : Int) < (v : Int) := by omega
        obtain ⟨h, hh⟩ : ∃ h : Nat, ((u : Int) + (v : Int)) / 2 = (h : Int) := ⟨(u + v) / 2, by omega⟩
        have huh : u ≤ h := by omega
        have hhv : h < v := by omega
        have T1z : d.size = d0.size := HS.out
        obtain ⟨q, hq⟩ : ∃ q : Nat, (mid : Int) + (m : Int) - 1 - (h : Int) = (q : Int) := ⟨mid + m - 1 - h, by omega⟩
        have hqn : mid + m - 1 - h = q := by omega
        have hql : q < d0.size := by omega
        have rq : IntKind.i64.wrap ((mid : Int) + (m : Int) - 1 - (h : Int)) = (q : Int) := by rw [hq, IntKind.wrap_i64]; omega
        have HQN := hide hqn
        clear hqn
        cases hlv : ltOf (cfI s zs it) d[q]! d[h]! with
        | false =>
          have eqi : ((q : Int)).toNat = q := by omega
          have pqi : (0 : Int) ≤ (q : Int) := by omega
          have bqi : (q : Int) < (d0.size : Int) := by omega
          have rqi : IntKind.i64.wrap ((q : Int)) = (q : Int) := by rw [IntKind.wrap_i64]; omega
          have eqj : ((h : Int)).toNat = h := by omega
          have pqj : (0 : Int) ≤ (h : Int) := by omega
          have bqj : (h : Int) < (d0.size : Int) := by omega
          have rqj : IntKind.i64.wrap ((h : Int)) = (h : Int) := by rw [IntKind.wrap_i64]; omega
          obtain ⟨xq, hxq⟩ : ∃ x, x = d[q]! := ⟨_, rfl⟩
          obtain ⟨yq, hyq⟩ : ∃ x, x = d[h]! := ⟨_, rfl⟩
          have lqa0 : ∀ n os, (grow (wr.drewN n) os).cell? ⟨blk, off + q * 2, none⟩ = some (.int .i64 (it xq).1) := fun n os => by rw [hxq]; exact (SWI.cell0 (T1.out.grown n os) R HS.out (i := q) (by have := T1z; omega)).1
          have lqa1 : ∀ n os, (grow (wr.drewN n) os).cell? ⟨blk, off + q * 2 + 1, none⟩ = some (.int .i64 (it xq).2) := fun n os => by rw [hxq]; exact (SWI.cell1 (T1.out.grown n os) R HS.out (i := q) (by have := T1z; omega)).1
          have lqb0 : ∀ n os, (grow (wr.drewN n) os).cell? ⟨blk, off + h * 2, none⟩ = some (.int .i64 (it yq).1) := fun n os => by rw [hyq]; exact (SWI.cell0 (T1.out.grown n os) R HS.out (i := h) (by have := T1z; omega)).1
          have lqb1 : ∀ n os, (grow (wr.drewN n) os).cell? ⟨blk, off + h * 2 + 1, none⟩ = some (.int .i64 (it yq).2) := fun n os => by rw [hyq]; exact (SWI.cell1 (T1.out.grown n os) R HS.out (i := h) (by have := T1z; omega)).1
          have hcq := SWI.cmp T1.out R C xq yq
          have hdq : decide (cfI s zs it xq yq < 0) = false := by rw [hxq, hyq]; exact hlv
          have hvq : ¬ cfI s zs it xq yq < 0 := of_decide_eq_false hdq
          have SG : Hid (∀ n os, SWK (encI it) 2 w0 blk off d (grow (wr.drewN n) os)) := hide fun n os => T1.out.grown n os
          obtain ⟨cvq, hcvq⟩ : ∃ z, z = cfI s zs it xq yq := ⟨_, rfl⟩
          rw [← hcvq] at hcq hdq hvq
          clear hxq hyq hcvq
          go_wp2_with fail
          go_quiet_grown (first | (go_at_call 26; refine Calls.grown_of (hcq _ _)))
          have S2 : Hid (SWK (encI it) 2 w0 blk off d (grow (wr.drewN nq) osq)) := hide (SG.out nq osq)
          clear lqa0 lqa1 lqb0 lqb1 hcq SG
          generalize grow (wr.drewN nq) osq = w2 at S2 ⊢
          clear nq osq
          go_wp2
          go_roundw
          case rel => exact ⟨h + 1, v, by go_num, rfl, by omega, by omega, hv, S2, hide (.inr (by rw [show mid + m - (h + 1) = q by have := HQN.out; omega, Nat.add_sub_cancel]; exact hlv)), HR⟩
          case measure => simp [intOf]; omega
        | true =>
          have eqi : ((q : Int)).toNat = q := by omega
          have pqi : (0 : Int) ≤ (q : Int) := by omega
          have bqi : (q : Int) < (d0.size : Int) := by omega
          have rqi : IntKind.i64.wrap ((q : Int)) = (q : Int) := by rw [IntKind.wrap_i64]; omega
          have eqj : ((h : Int)).toNat = h := by omega
          have pqj : (0 : Int) ≤ (h : Int) := by omega
          have bqj : (h : Int) < (d0.size : Int) := by omega
          have rqj : IntKind.i64.wrap ((h : Int)) = (h : Int) := by rw [IntKind.wrap_i64]; omega
          obtain ⟨xq, hxq⟩ : ∃ x, x = d[q]! := ⟨_, rfl⟩
          obtain ⟨yq, hyq⟩ : ∃ x, x = d[h]! := ⟨_, rfl⟩
          have lqa0 : ∀ n os, (grow (wr.drewN n) os).cell? ⟨blk, off + q * 2, none⟩ = some (.int .i64 (it xq).1) := fun n os => by rw [hxq]; exact (SWI.cell0 (T1.out.grown n os) R HS.out (i := q) (by have := T1z; omega)).1
          have lqa1 : ∀ n os, (grow (wr.drewN n) os).cell? ⟨blk, off + q * 2 + 1, none⟩ = some (.int .i64 (it xq).2) := fun n os => by rw [hxq]; exact (SWI.cell1 (T1.out.grown n os) R HS.out (i := q) (by have := T1z; omega)).1
          have lqb0 : ∀ n os, (grow (wr.drewN n) os).cell? ⟨blk, off + h * 2, none⟩ = some (.int .i64 (it yq).1) := fun n os => by rw [hyq]; exact (SWI.cell0 (T1.out.grown n os) R HS.out (i := h) (by have := T1z; omega)).1
          have lqb1 : ∀ n os, (grow (wr.drewN n) os).cell? ⟨blk, off + h * 2 + 1, none⟩ = some (.int .i64 (it yq).2) := fun n os => by rw [hyq]; exact (SWI.cell1 (T1.out.grown n os) R HS.out (i := h) (by have := T1z; omega)).1
          have hcq := SWI.cmp T1.out R C xq yq
          have hdq : decide (cfI s zs it xq yq < 0) = true := by rw [hxq, hyq]; exact hlv
          have hvq : cfI s zs it xq yq < 0 := of_decide_eq_true hdq
          have SG : Hid (∀ n os, SWK (encI it) 2 w0 blk off d (grow (wr.drewN n) os)) := hide fun n os => T1.out.grown n os
          obtain ⟨cvq, hcvq⟩ : ∃ z, z = cfI s zs it xq yq := ⟨_, rfl⟩
          rw [← hcvq] at hcq hdq hvq
          clear hxq hyq hcvq
          go_wp2_with fail
          go_quiet_grown (first | (go_at_call 26; refine Calls.grown_of (hcq _ _)))
          have S2 : Hid (SWK (encI it) 2 w0 blk off d (grow (wr.drewN nq) osq)) := hide (SG.out nq osq)
          clear lqa0 lqa1 lqb0 lqb1 hcq SG
          generalize grow (wr.drewN nq) osq = w2 at S2 ⊢
          clear nq osq
          go_wp2
          go_roundw
          case rel => exact ⟨u, h, rfl, by go_num, hu, huh, by omega, S2, HL, hide (.inr (by rw [HQN.out]; exact hlv))⟩
          case measure => simp [intOf]; omega
      · have hltz : ¬ (u : Int) < (v : Int) := by omega
        obtain rfl : u = v := by omega
        obtain ⟨e, he⟩ : ∃ e : Nat, e + u = mid + m := ⟨mid + m - u, by omega⟩
        have hez : (mid : Int) + (m : Int) - (u : Int) = (e : Int) := by omega
        have FL : Hid (u = a ∨ e = b ∨ ltOf (cfI s zs it) d[e]! d[u - 1]! = false) := hide (by
          rcases HL.out with x | x
          · first | exact .inl x | exact .inr (.inl (by omega))
          · rw [show mid + m - u = e by omega] at x; exact .inr (.inr x))
        have FU : Hid (u = m ∨ e = m ∨ ltOf (cfI s zs it) d[e - 1]! d[u]! = true) := hide (by
          rcases HR.out with x | x
          · first | exact .inl x | exact .inr (.inl (by omega))
          · rw [show mid + m - 1 - u = e - 1 by omega] at x; exact .inr (.inr x))
        have q1 : a ≤ u := by omega
        have q2 : u ≤ m := by omega
        have q3 : u ≤ mid := by omega
        have q4 : m ≤ e := by omega
        have q5 : mid ≤ e := by omega
        have q6 : e ≤ b := by omega
        clear HL HR hu huv hv hlt
        obtain ⟨wR, hwR⟩ : ∃ w0 : World, w0 = wr := ⟨_, rfl⟩
        rw [← hwR] at T1 ⊢
        clear hwR
        by_cases hc1 : u < m ∧ m < e
        · have c11 : (u : Int) < (m : Int) := by omega
          have c12 : (m : Int) < (e : Int) := by omega
          have HC1 := hide (rotateR it (.func (.func 26) #[.agg #[.int .i64 s, .slice A l c]] #[]) blk off cap u m e d0 d w0 wR R HS.out T1.out hc1.1 hc1.2 (by rw [HS.out]; omega) (by rw [HS.out]; exact hsz))
          rw [HS.out] at HC1
          go_wp2_with fail
          refine HC1.out.mono ?_
          rintro _ w1 ⟨rfl, d1, V1, RT, P1⟩
          have V1 := hide V1
          have RT := hide RT
          have P1 := hide P1
          have Z1 : Hid (d1.size = d0.size) := hide (RT.out.1.trans HS.out)
          by_cases hc2 : a < u ∧ u < mid
          · have c21 : (a : Int) < (u : Int) := by omega
            have c22 : (u : Int) < (mid : Int) := by omega
            have HC2 := hide (HIH.out a u mid d1 w1 (by omega) (Z1.out) V1.out hc2.1 hc2.2 (by omega))
            go_wp2_with fail
            refine HC2.out.mono ?_
            rintro _ w2 ⟨rfl, d2, V2, M2⟩
            have V2 := hide V2
            have M2 := hide M2
            have Z2 : Hid (d2.size = d0.size) := hide (M2.out.1.1.trans Z1.out)
            by_cases hc3 : mid < e ∧ e < b
            · have c31 : (mid : Int) < (e : Int) := by omega
              have c32 : (e : Int) < (b : Int) := by omega
              have HC3 := hide (HIH.out mid e b d2 w2 (by omega) (Z2.out) V2.out hc3.1 hc3.2 hb)
              go_wp2_with fail
              all_goals (
                refine HC3.out.mono ?_
                rintro _ w3 ⟨rfl, d3, V3, M3⟩
                have V3 := hide V3
                have M3 := hide M3
                go_wp2 <;> (go_end0; exact ⟨rfl, d3, V3.out, sym_plain (by rw [HS.out]; exact hb) (by omega) (by omega) q1 q2 q3 q4 q5 q6 he FL.out FU.out P1.out RT.out M2.out M3.out⟩))
            · by_cases c3 : mid < e
              · have c31 : (mid : Int) < (e : Int) := by omega
                have c32 : ¬ (e : Int) < (b : Int) := by omega
                have M3 := hide (Mrg.triv (ltOf (cfI s zs it)) ix (a := mid) (m := e) (b := b) d2 (by omega))
                obtain ⟨d3, hd3⟩ : ∃ d3, d3 = d2 := ⟨_, rfl⟩
                have V3 := V2
                rw [← hd3] at V3
                have M3 : Hid (Mrg (ltOf (cfI s zs it)) ix mid e b d2 d3) := hide (by rw [hd3]; exact M3.out)
                go_wp2 <;> (go_end0; exact ⟨rfl, d3, V3.out, sym_plain (by rw [HS.out]; exact hb) (by omega) (by omega) q1 q2 q3 q4 q5 q6 he FL.out FU.out P1.out RT.out M2.out M3.out⟩)
              · have c31 : ¬ (mid : Int) < (e : Int) := by omega
                have M3 := hide (Mrg.triv (ltOf (cfI s zs it)) ix (a := mid) (m := e) (b := b) d2 (by omega))
                obtain ⟨d3, hd3⟩ : ∃ d3, d3 = d2 := ⟨_, rfl⟩
                have V3 := V2
                rw [← hd3] at V3
                have M3 : Hid (Mrg (ltOf (cfI s zs it)) ix mid e b d2 d3) := hide (by rw [hd3]; exact M3.out)
                go_wp2 <;> (go_end0; exact ⟨rfl, d3, V3.out, sym_plain (by rw [HS.out]; exact hb) (by omega) (by omega) q1 q2 q3 q4 q5 q6 he FL.out FU.out P1.out RT.out M2.out M3.out⟩)
          · have M2 : Hid (Mrg (ltOf (cfI s zs it)) ix a u mid d1 d1) := hide (Mrg.triv (ltOf (cfI s zs it)) ix d1 (by omega))
            obtain ⟨d2, hd2⟩ : ∃ d2, d2 = d1 := ⟨_, rfl⟩
            have V2 : Hid (SWK (encI it) 2 w0 blk off d2 w1) := hide (by rw [hd2]; exact V1.out)
            have M2 : Hid (Mrg (ltOf (cfI s zs it)) ix a u mid d1 d2) := hide (by rw [hd2]; exact M2.out)
            have Z2 : Hid (d2.size = d0.size) := hide (by rw [hd2]; exact Z1.out)
            clear hd2
            obtain ⟨w2, hw2⟩ : ∃ w2 : World, w2 = w1 := ⟨_, rfl⟩
            rw [← hw2] at V2 ⊢
            clear hw2
            by_cases c2 : a < u
            · have c21 : (a : Int) < (u : Int) := by omega
              have c22 : ¬ (u : Int) < (mid : Int) := by omega
              by_cases hc3 : mid < e ∧ e < b
              · have c31 : (mid : Int) < (e : Int) := by omega
                have c32 : (e : Int) < (b : Int) := by omega
                have HC3 := hide (HIH.out mid e b d2 w2 (by omega) (Z2.out) V2.out hc3.1 hc3.2 hb)
                go_wp2_with fail
                all_goals (
                  refine HC3.out.mono ?_
                  rintro _ w3 ⟨rfl, d3, V3, M3⟩
                  have V3 := hide V3
                  have M3 := hide M3
                  go_wp2 <;> (go_end0; exact ⟨rfl, d3, V3.out, sym_plain (by rw [HS.out]; exact hb) (by omega) (by omega) q1 q2 q3 q4 q5 q6 he FL.out FU.out P1.out RT.out M2.out M3.out⟩))
              · by_cases c3 : mid < e
                · have c31 : (mid : Int) < (e : Int) := by omega
                  have c32 : ¬ (e : Int) < (b : Int) := by omega
                  have M3 := hide (Mrg.triv (ltOf (cfI s zs it)) ix (a := mid) (m := e) (b := b) d2 (by omega))
                  obtain ⟨d3, hd3⟩ : ∃ d3, d3 = d2 := ⟨_, rfl⟩
                  have V3 := V2
                  rw [← hd3] at V3
                  have M3 : Hid (Mrg (ltOf (cfI s zs it)) ix mid e b d2 d3) := hide (by rw [hd3]; exact M3.out)
                  go_wp2 <;> (go_end0; exact ⟨rfl, d3, V3.out, sym_plain (by rw [HS.out]; exact hb) (by omega) (by omega) q1 q2 q3 q4 q5 q6 he FL.out FU.out P1.out RT.out M2.out M3.out⟩)
                · have c31 : ¬ (mid : Int) < (e : Int) := by omega
                  have M3 := hide (Mrg.triv (ltOf (cfI s zs it)) ix (a := mid) (m := e) (b := b) d2 (by omega))
                  obtain ⟨d3, hd3⟩ : ∃ d3, d3 = d2 := ⟨_, rfl⟩
                  have V3 := V2
                  rw [← hd3] at V3
                  have M3 : Hid (Mrg (ltOf (cfI s zs it)) ix mid e b d2 d3) := hide (by rw [hd3]; exact M3.out)
                  go_wp2 <;> (go_end0; exact ⟨rfl, d3, V3.out, sym_plain (by rw [HS.out]; exact hb) (by omega) (by omega) q1 q2 q3 q4 q5 q6 he FL.out FU.out P1.out RT.out M2.out M3.out⟩)
            · have c21 : ¬ (a : Int) < (u : Int) := by omega
              by_cases hc3 : mid < e ∧ e < b
              · have c31 : (mid : Int) < (e : Int) := by omega
                have c32 : (e : Int) < (b : Int) := by omega
                have HC3 := hide (HIH.out mid e b d2 w2 (by omega) (Z2.out) V2.out hc3.1 hc3.2 hb)
                go_wp2_with fail
                all_goals (
                  refine HC3.out.mono ?_
                  rintro _ w3 ⟨rfl, d3, V3, M3⟩
                  have V3 := hide V3
                  have M3 := hide M3
                  go_wp2 <;> (go_end0; exact ⟨rfl, d3, V3.out, sym_plain (by rw [HS.out]; exact hb) (by omega) (by omega) q1 q2 q3 q4 q5 q6 he FL.out FU.out P1.out RT.out M2.out M3.out⟩))
              · by_cases c3 : mid < e
                · have c31 : (mid : Int) < (e : Int) := by omega
                  have c32 : ¬ (e : Int) < (b : Int) := by omega
                  have M3 := hide (Mrg.triv (ltOf (cfI s zs it)) ix (a := mid) (m := e) (b := b) d2 (by omega))
                  obtain ⟨d3, hd3⟩ : ∃ d3, d3 = d2 := ⟨_, rfl⟩
                  have V3 := V2
                  rw [← hd3] at V3
                  have M3 : Hid (Mrg (ltOf (cfI s zs it)) ix mid e b d2 d3) := hide (by rw [hd3]; exact M3.out)
                  go_wp2 <;> (go_end0; exact ⟨rfl, d3, V3.out, sym_plain (by rw [HS.out]; exact hb) (by omega) (by omega) q1 q2 q3 q4 q5 q6 he FL.out FU.out P1.out RT.out M2.out M3.out⟩)
                · have c31 : ¬ (mid : Int) < (e : Int) := by omega
                  have M3 := hide (Mrg.triv (ltOf (cfI s zs it)) ix (a := mid) (m := e) (b := b) d2 (by omega))
                  obtain ⟨d3, hd3⟩ : ∃ d3, d3 = d2 := ⟨_, rfl⟩
                  have V3 := V2
                  rw [← hd3] at V3
                  have M3 : Hid (Mrg (ltOf (cfI s zs it)) ix mid e b d2 d3) := hide (by rw [hd3]; exact M3.out)
                  go_wp2 <;> (go_end0; exact ⟨rfl, d3, V3.out, sym_plain (by rw [HS.out]; exact hb) (by omega) (by omega) q1 q2 q3 q4 q5 q6 he FL.out FU.out P1.out RT.out M2.out M3.out⟩)
        · have RT : Hid (Rot u m e d d) := hide (Rot.triv d (by omega))
          have P1 : Hid (PermIn u e d d) := hide (permIn_refl d u e)
          obtain ⟨d1, hd1⟩ : ∃ d1, d1 = d := ⟨_, rfl⟩
          have V1 : Hid (SWK (encI it) 2 w0 blk off d1 wR) := hide (by rw [hd1]; exact T1.out)
          have RT : Hid (Rot u m e d d1) := hide (by rw [hd1]; exact RT.out)
          have P1 : Hid (PermIn u e d d1) := hide (by rw [hd1]; exact P1.out)
          have Z1 : Hid (d1.size = d0.size) := hide (by rw [hd1]; exact HS.out)
          clear hd1
          obtain ⟨w1, hw1⟩ : ∃ w1 : World, w1 = wR := ⟨_, rfl⟩
          rw [← hw1] at V1 ⊢
          clear hw1 T1
          by_cases c1 : u < m
          · have c11 : (u : Int) < (m : Int) := by omega
            have c12 : ¬ (m : Int) < (e : Int) := by omega
            by_cases hc2 : a < u ∧ u < mid
            · have c21 : (a : Int) < (u : Int) := by omega
              have c22 : (u : Int) < (mid : Int) := by omega
              have HC2 := hide (HIH.out a u mid d1 w1 (by omega) (Z1.out) V1.out hc2.1 hc2.2 (by omega))
              go_wp2_with fail
              refine HC2.out.mono ?_
              rintro _ w2 ⟨rfl, d2, V2, M2⟩
              have V2 := hide V2
              have M2 := hide M2
              have Z2 : Hid (d2.size = d0.size) := hide (M2.out.1.1.trans Z1.out)
              by_cases hc3 : mid < e ∧ e < b
              · have c31 : (mid : Int) < (e : Int) := by omega
                have c32 : (e : Int) < (b : Int) := by omega
                have HC3 := hide (HIH.out mid e b d2 w2 (by omega) (Z2.out) V2.out hc3.1 hc3.2 hb)
                go_wp2_with fail
                all_goals (
                  refine HC3.out.mono ?_
                  rintro _ w3 ⟨rfl, d3, V3, M3⟩
                  have V3 := hide V3
                  have M3 := hide M3
                  go_wp2 <;> (go_end0; exact ⟨rfl, d3, V3.out, sym_plain (by rw [HS.out]; exact hb) (by omega) (by omega) q1 q2 q3 q4 q5 q6 he FL.out FU.out P1.out RT.out M2.out M3.out⟩))
              · by_cases c3 : mid < e
                · have c31 : (mid : Int) < (e : Int) := by omega
                  have c32 : ¬ (e : Int) < (b : Int) := by omega
                  have M3 := hide (Mrg.triv (ltOf (cfI s zs it)) ix (a := mid) (m := e) (b := b) d2 (by omega))
                  obtain ⟨d3, hd3⟩ : ∃ d3, d3 = d2 := ⟨_, rfl⟩
                  have V3 := V2
                  rw [← hd3] at V3
                  have M3 : Hid (Mrg (ltOf (cfI s zs it)) ix mid e b d2 d3) := hide (by rw [hd3]; exact M3.out)
                  go_wp2 <;> (go_end0; exact ⟨rfl, d3, V3.out, sym_plain (by rw [HS.out]; exact hb) (by omega) (by omega) q1 q2 q3 q4 q5 q6 he FL.out FU.out P1.out RT.out M2.out M3.out⟩)
                · have c31 : ¬ (mid : Int) < (e : Int) := by omega
                  have M3 := hide (Mrg.triv (ltOf (cfI s zs it)) ix (a := mid) (m := e) (b := b) d2 (by omega))
                  obtain ⟨d3, hd3⟩ : ∃ d3, d3 = d2 := ⟨_, rfl⟩
                  have V3 := V2
                  rw [← hd3] at V3
                  have M3 : Hid (Mrg (ltOf (cfI s zs it)) ix mid e b d2 d3) := hide (by rw [hd3]; exact M3.out)
                  go_wp2 <;> (go_end0; exact ⟨rfl, d3, V3.out, sym_plain (by rw [HS.out]; exact hb) (by omega) (by omega) q1 q2 q3 q4 q5 q6 he FL.out FU.out P1.out RT.out M2.out M3.out⟩)
            · have M2 : Hid (Mrg (ltOf (cfI s zs it)) ix a u mid d1 d1) := hide (Mrg.triv (ltOf (cfI s zs it)) ix d1 (by omega))
              obtain ⟨d2, hd2⟩ : ∃ d2, d2 = d1 := ⟨_, rfl⟩
              have V2 : Hid (SWK (encI it) 2 w0 blk off d2 w1) := hide (by rw [hd2]; exact V1.out)
              have M2 : Hid (Mrg (ltOf (cfI s zs it)) ix a u mid d1 d2) := hide (by rw [hd2]; exact M2.out)
              have Z2 : Hid (d2.size = d0.size) := hide (by rw [hd2]; exact Z1.out)
              clear hd2
              obtain ⟨w2, hw2⟩ : ∃ w2 : World, w2 = w1 := ⟨_, rfl⟩
              rw [← hw2] at V2 ⊢
              clear hw2
              by_cases c2 : a < u
              · have c21 : (a : Int) < (u : Int) := by omega
                have c22 : ¬ (u : Int) < (mid : Int) := by omega
                by_cases hc3 : mid < e ∧ e < b
                · have c31 : (mid : Int) < (e : Int) := by omega
                  have c32 : (e : Int) < (b : Int) := by omega
                  have HC3 := hide (HIH.out mid e b d2 w2 (by omega) (Z2.out) V2.out hc3.1 hc3.2 hb)
                  go_wp2_with fail
                  all_goals (
                    refine HC3.out.mono ?_
                    rintro _ w3 ⟨rfl, d3, V3, M3⟩
                    have V3 := hide V3
                    have M3 := hide M3
                    go_wp2 <;> (go_end0; exact ⟨rfl, d3, V3.out, sym_plain (by rw [HS.out]; exact hb) (by omega) (by omega) q1 q2 q3 q4 q5 q6 he FL.out FU.out P1.out RT.out M2.out M3.out⟩))
                · by_cases c3 : mid < e
                  · have c31 : (mid : Int) < (e : Int) := by omega
                    have c32 : ¬ (e : Int) < (b : Int) := by omega
                    have M3 := hide (Mrg.triv (ltOf (cfI s zs it)) ix (a := mid) (m := e) (b := b) d2 (by omega))
                    obtain ⟨d3, hd3⟩ : ∃ d3, d3 = d2 := ⟨_, rfl⟩
                    have V3 := V2
                    rw [← hd3] at V3
                    have M3 : Hid (Mrg (ltOf (cfI s zs it)) ix mid e b d2 d3) := hide (by rw [hd3]; exact M3.out)
                    go_wp2 <;> (go_end0; exact ⟨rfl, d3, V3.out, sym_plain (by rw [HS.out]; exact hb) (by omega) (by omega) q1 q2 q3 q4 q5 q6 he FL.out FU.out P1.out RT.out M2.out M3.out⟩)
                  · have c31 : ¬ (mid : Int) < (e : Int) := by omega
                    have M3 := hide (Mrg.triv (ltOf (cfI s zs it)) ix (a := mid) (m := e) (b := b) d2 (by omega))
                    obtain ⟨d3, hd3⟩ : ∃ d3, d3 = d2 := ⟨_, rfl⟩
                    have V3 := V2
                    rw [← hd3] at V3
                    have M3 : Hid (Mrg (ltOf (cfI s zs it)) ix mid e b d2 d3) := hide (by rw [hd3]; exact M3.out)
                    go_wp2 <;> (go_end0; exact ⟨rfl, d3, V3.out, sym_plain (by rw [HS.out]; exact hb) (by omega) (by omega) q1 q2 q3 q4 q5 q6 he FL.out FU.out P1.out RT.out M2.out M3.out⟩)
              · have c21 : ¬ (a : Int) < (u : Int) := by omega
                by_cases hc3 : mid < e ∧ e < b
                · have c31 : (mid : Int) < (e : Int) := by omega
                  have c32 : (e : Int) < (b : Int) := by omega
                  have HC3 := hide (HIH.out mid e b d2 w2 (by omega) (Z2.out) V2.out hc3.1 hc3.2 hb)
                  go_wp2_with fail
                  all_goals (
                    refine HC3.out.mono ?_
                    rintro _ w3 ⟨rfl, d3, V3, M3⟩
                    have V3 := hide V3
                    have M3 := hide M3
                    go_wp2 <;> (go_end0; exact ⟨rfl, d3, V3.out, sym_plain (by rw [HS.out]; exact hb) (by omega) (by omega) q1 q2 q3 q4 q5 q6 he FL.out FU.out P1.out RT.out M2.out M3.out⟩))
                · by_cases c3 : mid < e
                  · have c31 : (mid : Int) < (e : Int) := by omega
                    have c32 : ¬ (e : Int) < (b : Int) := by omega
                    have M3 := hide (Mrg.triv (ltOf (cfI s zs it)) ix (a := mid) (m := e) (b := b) d2 (by omega))
                    obtain ⟨d3, hd3⟩ : ∃ d3, d3 = d2 := ⟨_, rfl⟩
                    have V3 := V2
                    rw [← hd3] at V3
                    have M3 : Hid (Mrg (ltOf (cfI s zs it)) ix mid e b d2 d3) := hide (by rw [hd3]; exact M3.out)
                    go_wp2 <;> (go_end0; exact ⟨rfl, d3, V3.out, sym_plain (by rw [HS.out]; exact hb) (by omega) (by omega) q1 q2 q3 q4 q5 q6 he FL.out FU.out P1.out RT.out M2.out M3.out⟩)
                  · have c31 : ¬ (mid : Int) < (e : Int) := by omega
                    have M3 := hide (Mrg.triv (ltOf (cfI s zs it)) ix (a := mid) (m := e) (b := b) d2 (by omega))
                    obtain ⟨d3, hd3⟩ : ∃ d3, d3 = d2 := ⟨_, rfl⟩
                    have V3 := V2
                    rw [← hd3] at V3
                    have M3 : Hid (Mrg (ltOf (cfI s zs it)) ix mid e b d2 d3) := hide (by rw [hd3]; exact M3.out)
                    go_wp2 <;> (go_end0; exact ⟨rfl, d3, V3.out, sym_plain (by rw [HS.out]; exact hb) (by omega) (by omega) q1 q2 q3 q4 q5 q6 he FL.out FU.out P1.out RT.out M2.out M3.out⟩)
          · have c11 : ¬ (u : Int) < (m : Int) := by omega
            by_cases hc2 : a < u ∧ u < mid
            · have c21 : (a : Int) < (u : Int) := by omega
              have c22 : (u : Int) < (mid : Int) := by omega
              have HC2 := hide (HIH.out a u mid d1 w1 (by omega) (Z1.out) V1.out hc2.1 hc2.2 (by omega))
              go_wp2_with fail
              refine HC2.out.mono ?_
              rintro _ w2 ⟨rfl, d2, V2, M2⟩
              have V2 := hide V2
              have M2 := hide M2
              have Z2 : Hid (d2.size = d0.size) := hide (M2.out.1.1.trans Z1.out)
              by_cases hc3 : mid < e ∧ e < b
              · have c31 : (mid : Int) < (e : Int) := by omega
                have c32 : (e : Int) < (b : Int) := by omega
                have HC3 := hide (HIH.out mid e b d2 w2 (by omega) (Z2.out) V2.out hc3.1 hc3.2 hb)
                go_wp2_with fail
                all_goals (
                  refine HC3.out.mono ?_
                  rintro _ w3 ⟨rfl, d3, V3, M3⟩
                  have V3 := hide V3
                  have M3 := hide M3
                  go_wp2 <;> (go_end0; exact ⟨rfl, d3, V3.out, sym_plain (by rw [HS.out]; exact hb) (by omega) (by omega) q1 q2 q3 q4 q5 q6 he FL.out FU.out P1.out RT.out M2.out M3.out⟩))
              · by_cases c3 : mid < e
                · have c31 : (mid : Int) < (e : Int) := by omega
                  have c32 : ¬ (e : Int) < (b : Int) := by omega
                  have M3 := hide (Mrg.triv (ltOf (cfI s zs it)) ix (a := mid) (m := e) (b := b) d2 (by omega))
                  obtain ⟨d3, hd3⟩ : ∃ d3, d3 = d2 := ⟨_, rfl⟩
                  have V3 := V2
                  rw [← hd3] at V3
                  have M3 : Hid (Mrg (ltOf (cfI s zs it)) ix mid e b d2 d3) := hide (by rw [hd3]; exact M3.out)
                  go_wp2 <;> (go_end0; exact ⟨rfl, d3, V3.out, sym_plain (by rw [HS.out]; exact hb) (by omega) (by omega) q1 q2 q3 q4 q5 q6 he FL.out FU.out P1.out RT.out M2.out M3.out⟩)
                · have c31 : ¬ (mid : Int) < (e : Int) := by omega
                  have M3 := hide (Mrg.triv (ltOf (cfI s zs it)) ix (a := mid) (m := e) (b := b) d2 (by omega))
                  obtain ⟨d3, hd3⟩ : ∃ d3, d3 = d2 := ⟨_, rfl⟩
                  have V3 := V2
                  rw [← hd3] at V3
                  have M3 : Hid (Mrg (ltOf (cfI s zs it)) ix mid e b d2 d3) := hide (by rw [hd3]; exact M3.out)
                  go_wp2 <;> (go_end0; exact ⟨rfl, d3, V3.out, sym_plain (by rw [HS.out]; exact hb) (by omega) (by omega) q1 q2 q3 q4 q5 q6 he FL.out FU.out P1.out RT.out M2.out M3.out⟩)
            · have M2 : Hid (Mrg (ltOf (cfI s zs it)) ix a u mid d1 d1) := hide (Mrg.triv (ltOf (cfI s zs it)) ix d1 (by omega))
              obtain ⟨d2, hd2⟩ : ∃ d2, d2 = d1 := ⟨_, rfl⟩
              have V2 : Hid (SWK (encI it) 2 w0 blk off d2 w1) := hide (by rw [hd2]; exact V1.out)
              have M2 : Hid (Mrg (ltOf (cfI s zs it)) ix a u mid d1 d2) := hide (by rw [hd2]; exact M2.out)
              have Z2 : Hid (d2.size = d0.size) := hide (by rw [hd2]; exact Z1.out)
              clear hd2
              obtain ⟨w2, hw2⟩ : ∃ w2 : World, w2 = w1 := ⟨_, rfl⟩
              rw [← hw2] at V2 ⊢
              clear hw2
              by_cases c2 : a < u
              · have c21 : (a : Int) < (u : Int) := by omega
                have c22 : ¬ (u : Int) < (mid : Int) := by omega
                by_cases hc3 : mid < e ∧ e < b
                · have c31 : (mid : Int) < (e : Int) := by omega
                  have c32 : (e : Int) < (b : Int) := by omega
                  have HC3 := hide (HIH.out mid e b d2 w2 (by omega) (Z2.out) V2.out hc3.1 hc3.2 hb)
                  go_wp2_with fail
                  all_goals (
                    refine HC3.out.mono ?_
                    rintro _ w3 ⟨rfl, d3, V3, M3⟩
                    have V3 := hide V3
                    have M3 := hide M3
                    go_wp2 <;> (go_end0; exact ⟨rfl, d3, V3.out, sym_plain (by rw [HS.out]; exact hb) (by omega) (by omega) q1 q2 q3 q4 q5 q6 he FL.out FU.out P1.out RT.out M2.out M3.out⟩))
                · by_cases c3 : mid < e
                  · have c31 : (mid : Int) < (e : Int) := by omega
                    have c32 : ¬ (e : Int) < (b : Int) := by omega
                    have M3 := hide (Mrg.triv (ltOf (cfI s zs it)) ix (a := mid) (m := e) (b := b) d2 (by omega))
                    obtain ⟨d3, hd3⟩ : ∃ d3, d3 = d2 := ⟨_, rfl⟩
                    have V3 := V2
                    rw [← hd3] at V3
                    have M3 : Hid (Mrg (ltOf (cfI s zs it)) ix mid e b d2 d3) := hide (by rw [hd3]; exact M3.out)
                    go_wp2 <;> (go_end0; exact ⟨rfl, d3, V3.out, sym_plain (by rw [HS.out]; exact hb) (by omega) (by omega) q1 q2 q3 q4 q5 q6 he FL.out FU.out P1.out RT.out M2.out M3.out⟩)
                  · have c31 : ¬ (mid : Int) < (e : Int) := by omega
                    have M3 := hide (Mrg.triv (ltOf (cfI s zs it)) ix (a := mid) (m := e) (b := b) d2 (by omega))
                    obtain ⟨d3, hd3⟩ : ∃ d3, d3 = d2 := ⟨_, rfl⟩
                    have V3 := V2
                    rw [← hd3] at V3
                    have M3 : Hid (Mrg (ltOf (cfI s zs it)) ix mid e b d2 d3) := hide (by rw [hd3]; exact M3.out)
                    go_wp2 <;> (go_end0; exact ⟨rfl, d3, V3.out, sym_plain (by rw [HS.out]; exact hb) (by omega) (by omega) q1 q2 q3 q4 q5 q6 he FL.out FU.out P1.out RT.out M2.out M3.out⟩)
              · have c21 : ¬ (a : Int) < (u : Int) := by omega
                by_cases hc3 : mid < e ∧ e < b
                · have c31 : (mid : Int) < (e : Int) := by omega
                  have c32 : (e : Int) < (b : Int) := by omega
                  have HC3 := hide (HIH.out mid e b d2 w2 (by omega) (Z2.out) V2.out hc3.1 hc3.2 hb)
                  go_wp2_with fail
                  all_goals (
                    refine HC3.out.mono ?_
                    rintro _ w3 ⟨rfl, d3, V3, M3⟩
                    have V3 := hide V3
                    have M3 := hide M3
                    go_wp2 <;> (go_end0; exact ⟨rfl, d3, V3.out, sym_plain (by rw [HS.out]; exact hb) (by omega) (by omega) q1 q2 q3 q4 q5 q6 he FL.out FU.out P1.out RT.out M2.out M3.out⟩))
                · by_cases c3 : mid < e
                  · have c31 : (mid : Int) < (e : Int) := by omega
                    have c32 : ¬ (e : Int) < (b : Int) := by omega
                    have M3 := hide (Mrg.triv (ltOf (cfI s zs it)) ix (a := mid) (m := e) (b := b) d2 (by omega))
                    obtain ⟨d3, hd3⟩ : ∃ d3, d3 = d2 := ⟨_, rfl⟩
                    have V3 := V2
                    rw [← hd3] at V3
                    have M3 : Hid (Mrg (ltOf (cfI s zs it)) ix mid e b d2 d3) := hide (by rw [hd3]; exact M3.out)
                    go_wp2 <;> (go_end0; exact ⟨rfl, d3, V3.out, sym_plain (by rw [HS.out]; exact hb) (by omega) (by omega) q1 q2 q3 q4 q5 q6 he FL.out FU.out P1.out RT.out M2.out M3.out⟩)
                  · have c31 : ¬ (mid : Int) < (e : Int) := by omega
                    have M3 := hide (Mrg.triv (ltOf (cfI s zs it)) ix (a := mid) (m := e) (b := b) d2 (by omega))
                    obtain ⟨d3, hd3⟩ : ∃ d3, d3 = d2 := ⟨_, rfl⟩
                    have V3 := V2
                    rw [← hd3] at V3
                    have M3 : Hid (Mrg (ltOf (cfI s zs it)) ix mid e b d2 d3) := hide (by rw [hd3]; exact M3.out)
                    go_wp2 <;> (go_end0; exact ⟨rfl, d3, V3.out, sym_plain (by rw [HS.out]; exact hb) (by omega) (by omega) q1 q2 q3 q4 q5 q6 he FL.out FU.out P1.out RT.out M2.out M3.out⟩)
  · have hmz : ¬ (mid : Int) < (m : Int) := by omega
    go_wp2
    go_loopw [20, 21] (fun vs vr wr => ∃ u v : Nat, vs = .int .i64 u ∧ vr = .int .i64 v ∧ a ≤ u ∧ u ≤ v ∧ v ≤ m ∧ Hid (SWK (encI it) 2 w0 blk off d wr) ∧ Hid (u = a ∨ ltOf (cfI s zs it) d[mid + m - u]! d[u - 1]! = false) ∧ Hid (v = m ∨ ltOf (cfI s zs it) d[mid + m - 1 - v]! d[v]! = true)) (fun vs vr _ => (intOf vr).toNat - (intOf vs).toNat)
    case atStart => exact ⟨a, m, by first | rfl | go_num, by first | rfl | go_num, Nat.le_refl _, by omega, Nat.le_refl _, S0, hide (.inl rfl), hide (.inl rfl)⟩
    case round =>
      clear S0
      obtain ⟨u, v, rfl, rfl, hu, huv, hv, T1, HL, HR⟩ := hrel
      by_cases hlt : u < v
      · have hltz : (u : Int) < (v : Int) := by omega
        obtain ⟨h, hh⟩ : ∃ h : Nat, ((u : Int) + (v : Int)) / 2 = (h : Int) := ⟨(u + v) / 2, by omega⟩
        have huh : u ≤ h := by omega
        have hhv : h < v := by omega
        have T1z : d.size = d0.size := HS.out
        obtain ⟨q, hq⟩ : ∃ q : Nat, (mid : Int) + (m : Int) - 1 - (h : Int) = (q : Int) := ⟨mid + m - 1 - h, by omega⟩
        have hqn : mid + m - 1 - h = q := by omega
        have hql : q < d0.size := by omega
        have rq : IntKind.i64.wrap ((mid : Int) + (m : Int) - 1 - (h : Int)) = (q : Int) := by rw [hq, IntKind.wrap_i64]; omega
        have HQN := hide hqn
        clear hqn
        cases hlv : ltOf (cfI s zs it) d[q]! d[h]! with
        | false =>
          have eqi : ((q : Int)).toNat = q := by omega
          have pqi : (0 : Int) ≤ (q : Int) := by omega
          have bqi : (q : Int) < (d0.size : Int) := by omega
          have rqi : IntKind.i64.wrap ((q : Int)) = (q : Int) := by rw [IntKind.wrap_i64]; omega
          have eqj : ((h : Int)).toNat = h := by omega
          have pqj : (0 : Int) ≤ (h : Int) := by omega
          have bqj : (h : Int) < (d0.size : Int) := by omega
          have rqj : IntKind.i64.wrap ((h : Int)) = (h : Int) := by rw [IntKind.wrap_i64]; omega
          obtain ⟨xq, hxq⟩ : ∃ x, x = d[q]! := ⟨_, rfl⟩
          obtain ⟨yq, hyq⟩ : ∃ x, x = d[h]! := ⟨_, rfl⟩
          have lqa0 : ∀ n os, (grow (wr.drewN n) os).cell? ⟨blk, off + q * 2, none⟩ = some (.int .i64 (it xq).1) := fun n os => by rw [hxq]; exact (SWI.cell0 (T1.out.grown n os) R HS.out (i := q) (by have := T1z; omega)).1
          have lqa1 : ∀ n os, (grow (wr.drewN n) os).cell? ⟨blk, off + q * 2 + 1, none⟩ = some (.int .i64 (it xq).2) := fun n os => by rw [hxq]; exact (SWI.cell1 (T1.out.grown n os) R HS.out (i := q) (by have := T1z; omega)).1
          have lqb0 : ∀ n os, (grow (wr.drewN n) os).cell? ⟨blk, off + h * 2, none⟩ = some (.int .i64 (it yq).1) := fun n os => by rw [hyq]; exact (SWI.cell0 (T1.out.grown n os) R HS.out (i := h) (by have := T1z; omega)).1
          have lqb1 : ∀ n os, (grow (wr.drewN n) os).cell? ⟨blk, off + h * 2 + 1, none⟩ = some (.int .i64 (it yq).2) := fun n os => by rw [hyq]; exact (SWI.cell1 (T1.out.grown n os) R HS.out (i := h) (by have := T1z; omega)).1
          have hcq := SWI.cmp T1.out R C xq yq
          have hdq : decide (cfI s zs it xq yq < 0) = false := by rw [hxq, hyq]; exact hlv
          have hvq : ¬ cfI s zs it xq yq < 0 := of_decide_eq_false hdq
          have SG : Hid (∀ n os, SWK (encI it) 2 w0 blk off d (grow (wr.drewN n) os)) := hide fun n os => T1.out.grown n os
          obtain ⟨cvq, hcvq⟩ : ∃ z, z = cfI s zs it xq yq := ⟨_, rfl⟩
          rw [← hcvq] at hcq hdq hvq
          clear hxq hyq hcvq
          go_wp2_with fail
          go_quiet_grown (first | (go_at_call 26; refine Calls.grown_of (hcq _ _)))
          have S2 : Hid (SWK (encI it) 2 w0 blk off d (grow (wr.drewN nq) osq)) := hide (SG.out nq osq)
          clear lqa0 lqa1 lqb0 lqb1 hcq SG
          generalize grow (wr.drewN nq) osq = w2 at S2 ⊢
          clear nq osq
          go_wp2
          go_roundw
          case rel => exact ⟨h + 1, v, by go_num, rfl, by omega, by omega, hv, S2, hide (.inr (by rw [show mid + m - (h + 1) = q by have := HQN.out; omega, Nat.add_sub_cancel]; exact hlv)), HR⟩
          case measure => simp [intOf]; omega
        | true =>
          have eqi : ((q : Int)).toNat = q := by omega
          have pqi : (0 : Int) ≤ (q : Int) := by omega
          have bqi : (q : Int) < (d0.size : Int) := by omega
          have rqi : IntKind.i64.wrap ((q : Int)) = (q : Int) := by rw [IntKind.wrap_i64]; omega
          have eqj : ((h : Int)).toNat = h := by omega
          have pqj : (0 : Int) ≤ (h : Int) := by omega
          have bqj : (h : Int) < (d0.size : Int) := by omega
          have rqj : IntKind.i64.wrap ((h : Int)) = (h : Int) := by rw [IntKind.wrap_i64]; omega
          obtain ⟨xq, hxq⟩ : ∃ x, x = d[q]! := ⟨_, rfl⟩
          obtain ⟨yq, hyq⟩ : ∃ x, x = d[h]! := ⟨_, rfl⟩
          have lqa0 : ∀ n os, (grow (wr.drewN n) os).cell? ⟨blk, off + q * 2, none⟩ = some (.int .i64 (it xq).1) := fun n os => by rw [hxq]; exact (SWI.cell0 (T1.out.grown n os) R HS.out (i := q) (by have := T1z; omega)).1
          have lqa1 : ∀ n os, (grow (wr.drewN n) os).cell? ⟨blk, off + q * 2 + 1, none⟩ = some (.int .i64 (it xq).2) := fun n os => by rw [hxq]; exact (SWI.cell1 (T1.out.grown n os) R HS.out (i := q) (by have := T1z; omega)).1
          have lqb0 : ∀ n os, (grow (wr.drewN n) os).cell? ⟨blk, off + h * 2, none⟩ = some (.int .i64 (it yq).1) := fun n os => by rw [hyq]; exact (SWI.cell0 (T1.out.grown n os) R HS.out (i := h) (by have := T1z; omega)).1
          have lqb1 : ∀ n os, (grow (wr.drewN n) os).cell? ⟨blk, off + h * 2 + 1, none⟩ = some (.int .i64 (it yq).2) := fun n os => by rw [hyq]; exact (SWI.cell1 (T1.out.grown n os) R HS.out (i := h) (by have := T1z; omega)).1
          have hcq := SWI.cmp T1.out R C xq yq
          have hdq : decide (cfI s zs it xq yq < 0) = true := by rw [hxq, hyq]; exact hlv
          have hvq : cfI s zs it xq yq < 0 := of_decide_eq_true hdq
          have SG : Hid (∀ n os, SWK (encI it) 2 w0 blk off d (grow (wr.drewN n) os)) := hide fun n os => T1.out.grown n os
          obtain ⟨cvq, hcvq⟩ : ∃ z, z = cfI s zs it xq yq := ⟨_, rfl⟩
          rw [← hcvq] at hcq hdq hvq
          clear hxq hyq hcvq
          go_wp2_with fail
          go_quiet_grown (first | (go_at_call 26; refine Calls.grown_of (hcq _ _)))
          have S2 : Hid (SWK (encI it) 2 w0 blk off d (grow (wr.drewN nq) osq)) := hide (SG.out nq osq)
          clear lqa0 lqa1 lqb0 lqb1 hcq SG
          generalize grow (wr.drewN nq) osq = w2 at S2 ⊢
          clear nq osq
          go_wp2
          go_roundw
          case rel => exact ⟨u, h, rfl, by go_num, hu, huh, by omega, S2, HL, hide (.inr (by rw [HQN.out]; exact hlv))⟩
          case measure => simp [intOf]; omega
      · have hltz : ¬ (u : Int) < (v : Int) := by omega
        obtain rfl : u = v := by omega
        obtain ⟨e, he⟩ : ∃ e : Nat, e + u = mid + m := ⟨mid + m - u, by omega⟩
        have hez : (mid : Int) + (m : Int) - (u : Int) = (e : Int) := by omega
        have FL : Hid (u = a ∨ e = b ∨ ltOf (cfI s zs it) d[e]! d[u - 1]! = false) := hide (by
          rcases HL.out with x | x
          · first | exact .inl x | exact .inr (.inl (by omega))
          · rw [show mid + m - u = e by omega] at x; exact .inr (.inr x))
        have FU : Hid (u = m ∨ e = m ∨ ltOf (cfI s zs it) d[e - 1]! d[u]! = true) := hide (by
          rcases HR.out with x | x
          · first | exact .inl x | exact .inr (.inl (by omega))
          · rw [show mid + m - 1 - u = e - 1 by omega] at x; exact .inr (.inr x))
        have q1 : a ≤ u := by omega
        have q2 : u ≤ m := by omega
        have q3 : u ≤ mid := by omega
        have q4 : m ≤ e := by omega
        have q5 : mid ≤ e := by omega
        have q6 : e ≤ b := by omega
        clear HL HR hu huv hv hlt
        obtain ⟨wR, hwR⟩ : ∃ w0 : World, w0 = wr := ⟨_, rfl⟩
        rw [← hwR] at T1 ⊢
        clear hwR
        by_cases hc1 : u < m ∧ m < e
        · have c11 : (u : Int) < (m : Int) := by omega
          have c12 : (m : Int) < (e : Int) := by omega
          have HC1 := hide (rotateR it (.func (.func 26) #[.agg #[.int .i64 s, .slice A l c]] #[]) blk off cap u m e d0 d w0 wR R HS.out T1.out hc1.1 hc1.2 (by rw [HS.out]; omega) (by rw [HS.out]; exact hsz))
          rw [HS.out] at HC1
          go_wp2_with fail
          refine HC1.out.mono ?_
          rintro _ w1 ⟨rfl, d1, V1, RT, P1⟩
          have V1 := hide V1
          have RT := hide RT
          have P1 := hide P1
          have Z1 : Hid (d1.size = d0.size) := hide (RT.out.1.trans HS.out)
          by_cases hc2 : a < u ∧ u < mid
          · have c21 : (a : Int) < (u : Int) := by omega
            have c22 : (u : Int) < (mid : Int) := by omega
            have HC2 := hide (HIH.out a u mid d1 w1 (by omega) (Z1.out) V1.out hc2.1 hc2.2 (by omega))
            go_wp2_with fail
            refine HC2.out.mono ?_
            rintro _ w2 ⟨rfl, d2, V2, M2⟩
            have V2 := hide V2
            have M2 := hide M2
            have Z2 : Hid (d2.size = d0.size) := hide (M2.out.1.1.trans Z1.out)
            by_cases hc3 : mid < e ∧ e < b
            · have c31 : (mid : Int) < (e : Int) := by omega
              have c32 : (e : Int) < (b : Int) := by omega
              have HC3 := hide (HIH.out mid e b d2 w2 (by omega) (Z2.out) V2.out hc3.1 hc3.2 hb)
              go_wp2_with fail
              all_goals (
                refine HC3.out.mono ?_
                rintro _ w3 ⟨rfl, d3, V3, M3⟩
                have V3 := hide V3
                have M3 := hide M3
                go_wp2 <;> (go_end0; exact ⟨rfl, d3, V3.out, sym_plain (by rw [HS.out]; exact hb) (by omega) (by omega) q1 q2 q3 q4 q5 q6 he FL.out FU.out P1.out RT.out M2.out M3.out⟩))
            · by_cases c3 : mid < e
              · have c31 : (mid : Int) < (e : Int) := by omega
                have c32 : ¬ (e : Int) < (b : Int) := by omega
                have M3 := hide (Mrg.triv (ltOf (cfI s zs it)) ix (a := mid) (m := e) (b := b) d2 (by omega))
                obtain ⟨d3, hd3⟩ : ∃ d3, d3 = d2 := ⟨_, rfl⟩
                have V3 := V2
                rw [← hd3] at V3
                have M3 : Hid (Mrg (ltOf (cfI s zs it)) ix mid e b d2 d3) := hide (by rw [hd3]; exact M3.out)
                go_wp2 <;> (go_end0; exact ⟨rfl, d3, V3.out, sym_plain (by rw [HS.out]; exact hb) (by omega) (by omega) q1 q2 q3 q4 q5 q6 he FL.out FU.out P1.out RT.out M2.out M3.out⟩)
              · have c31 : ¬ (mid : Int) < (e : Int) := by omega
                have M3 := hide (Mrg.triv (ltOf (cfI s zs it)) ix (a := mid) (m := e) (b := b) d2 (by omega))
                obtain ⟨d3, hd3⟩ : ∃ d3, d3 = d2 := ⟨_, rfl⟩
                have V3 := V2
                rw [← hd3] at V3
                have M3 : Hid (Mrg (ltOf (cfI s zs it)) ix mid e b d2 d3) := hide (by rw [hd3]; exact M3.out)
                go_wp2 <;> (go_end0; exact ⟨rfl, d3, V3.out, sym_plain (by rw [HS.out]; exact hb) (by omega) (by omega) q1 q2 q3 q4 q5 q6 he FL.out FU.out P1.out RT.out M2.out M3.out⟩)
          · have M2 : Hid (Mrg (ltOf (cfI s zs it)) ix a u mid d1 d1) := hide (Mrg.triv (ltOf (cfI s zs it)) ix d1 (by omega))
            obtain ⟨d2, hd2⟩ : ∃ d2, d2 = d1 := ⟨_, rfl⟩
            have V2 : Hid (SWK (encI it) 2 w0 blk off d2 w1) := hide (by rw [hd2]; exact V1.out)
            have M2 : Hid (Mrg (ltOf (cfI s zs it)) ix a u mid d1 d2) := hide (by rw [hd2]; exact M2.out)
            have Z2 : Hid (d2.size = d0.size) := hide (by rw [hd2]; exact Z1.out)
            clear hd2
            obtain ⟨w2, hw2⟩ : ∃ w2 : World, w2 = w1 := ⟨_, rfl⟩
            rw [← hw2] at V2 ⊢
            clear hw2
            by_cases c2 : a < u
            · have c21 : (a : Int) < (u : Int) := by omega
              have c22 : ¬ (u : Int) < (mid : Int) := by omega
              by_cases hc3 : mid < e ∧ e < b
              · have c31 : (mid : Int) < (e : Int) := by omega
                have c32 : (e : Int) < (b : Int) := by omega
                have HC3 := hide (HIH.out mid e b d2 w2 (by omega) (Z2.out) V2.out hc3.1 hc3.2 hb)
                go_wp2_with fail
                all_goals (
                  refine HC3.out.mono ?_
                  rintro _ w3 ⟨rfl, d3, V3, M3⟩
                  have V3 := hide V3
                  have M3 := hide M3
                  go_wp2 <;> (go_end0; exact ⟨rfl, d3, V3.out, sym_plain (by rw [HS.out]; exact hb) (by omega) (by omega) q1 q2 q3 q4 q5 q6 he FL.out FU.out P1.out RT.out M2.out M3.out⟩))
              · by_cases c3 : mid < e
                · have c31 : (mid : Int) < (e : Int) := by omega
                  have c32 : ¬ (e : Int) < (b : Int) := by omega
                  have M3 := hide (Mrg.triv (ltOf (cfI s zs it)) ix (a := mid) (m := e) (b := b) d2 (by omega))
                  obtain ⟨d3, hd3⟩ : ∃ d3, d3 = d2 := ⟨_, rfl⟩
                  have V3 := V2
                  rw [← hd3] at V3
                  have M3 : Hid (Mrg (ltOf (cfI s zs it)) ix mid e b d2 d3) := hide (by rw [hd3]; exact M3.out)
                  go_wp2 <;> (go_end0; exact ⟨rfl, d3, V3.out, sym_plain (by rw [HS.out]; exact hb) (by omega) (by omega) q1 q2 q3 q4 q5 q6 he FL.out FU.out P1.out RT.out M2.out M3.out⟩)
                · have c31 : ¬ (mid : Int) < (e : Int) := by omega
                  have M3 := hide (Mrg.triv (ltOf (cfI s zs it)) ix (a := mid) (m := e) (b := b) d2 (by omega))
                  obtain ⟨d3, hd3⟩ : ∃ d3, d3 = d2 := ⟨_, rfl⟩
                  have V3 := V2
                  rw [← hd3] at V3
                  have M3 : Hid (Mrg (ltOf (cfI s zs it)) ix mid e b d2 d3) := hide (by rw [hd3]; exact M3.out)
                  go_wp2 <;> (go_end0; exact ⟨rfl, d3, V3.out, sym_plain (by rw [HS.out]; exact hb) (by omega) (by omega) q1 q2 q3 q4 q5 q6 he FL.out FU.out P1.out RT.out M2.out M3.out⟩)
            · have c21 : ¬ (a : Int) < (u : Int) := by omega
              by_cases hc3 : mid < e ∧ e < b
              · have c31 : (mid : Int) < (e : Int) := by omega
                have c32 : (e : Int) < (b : Int) := by omega
                have HC3 := hide (HIH.out mid e b d2 w2 (by omega) (Z2.out) V2.out hc3.1 hc3.2 hb)
                go_wp2_with fail
                all_goals (
                  refine HC3.out.mono ?_
                  rintro _ w3 ⟨rfl, d3, V3, M3⟩
                  have V3 := hide V3
                  have M3 := hide M3
                  go_wp2 <;> (go_end0; exact ⟨rfl, d3, V3.out, sym_plain (by rw [HS.out]; exact hb) (by omega) (by omega) q1 q2 q3 q4 q5 q6 he FL.out FU.out P1.out RT.out M2.out M3.out⟩))
              · by_cases c3 : mid < e
                · have c31 : (mid : Int) < (e : Int) := by omega
                  have c32 : ¬ (e : Int) < (b : Int) := by omega
                  have M3 := hide (Mrg.triv (ltOf (cfI s zs it)) ix (a := mid) (m := e) (b := b) d2 (by omega))
                  obtain ⟨d3, hd3⟩ : ∃ d3, d3 = d2 := ⟨_, rfl⟩
                  have V3 := V2
                  rw [← hd3] at V3
                  have M3 : Hid (Mrg (ltOf (cfI s zs it)) ix mid e b d2 d3) := hide (by rw [hd3]; exact M3.out)
                  go_wp2 <;> (go_end0; exact ⟨rfl, d3, V3.out, sym_plain (by rw [HS.out]; exact hb) (by omega) (by omega) q1 q2 q3 q4 q5 q6 he FL.out FU.out P1.out RT.out M2.out M3.out⟩)
                · have c31 : ¬ (mid : Int) < (e : Int) := by omega
                  have M3 := hide (Mrg.triv (ltOf (cfI s zs it)) ix (a := mid) (m := e) (b := b) d2 (by omega))
                  obtain ⟨d3, hd3⟩ : ∃ d3, d3 = d2 := ⟨_, rfl⟩
                  have V3 := V2
                  rw [← hd3] at V3
                  have M3 : Hid (Mrg (ltOf (cfI s zs it)) ix mid e b d2 d3) := hide (by rw [hd3]; exact M3.out)
                  go_wp2 <;> (go_end0; exact ⟨rfl, d3, V3.out, sym_plain (by rw [HS.out]; exact hb) (by omega) (by omega) q1 q2 q3 q4 q5 q6 he FL.out FU.out P1.out RT.out M2.out M3.out⟩)
        · have RT : Hid (Rot u m e d d) := hide (Rot.triv d (by omega))
          have P1 : Hid (PermIn u e d d) := hide (permIn_refl d u e)
          obtain ⟨d1, hd1⟩ : ∃ d1, d1 = d := ⟨_, rfl⟩
          have V1 : Hid (SWK (encI it) 2 w0 blk off d1 wR) := hide (by rw [hd1]; exact T1.out)
          have RT : Hid (Rot u m e d d1) := hide (by rw [hd1]; exact RT.out)
          have P1 : Hid (PermIn u e d d1) := hide (by rw [hd1]; exact P1.out)
          have Z1 : Hid (d1.size = d0.size) := hide (by rw [hd1]; exact HS.out)
          clear hd1
          obtain ⟨w1, hw1⟩ : ∃ w1 : World, w1 = wR := ⟨_, rfl⟩
          rw [← hw1] at V1 ⊢
          clear hw1 T1
          by_cases c1 : u < m
          · have c11 : (u : Int) < (m : Int) := by omega
            have c12 : ¬ (m : Int) < (e : Int) := by omega
            by_cases hc2 : a < u ∧ u < mid
            · have c21 : (a : Int) < (u : Int) := by omega
              have c22 : (u : Int) < (mid : Int) := by omega
              have HC2 := hide (HIH.out a u mid d1 w1 (by omega) (Z1.out) V1.out hc2.1 hc2.2 (by omega))
              go_wp2_with fail
              refine HC2.out.mono ?_
              rintro _ w2 ⟨rfl, d2, V2, M2⟩
              have V2 := hide V2
              have M2 := hide M2
              have Z2 : Hid (d2.size = d0.size) := hide (M2.out.1.1.trans Z1.out)
              by_cases hc3 : mid < e ∧ e < b
              · have c31 : (mid : Int) < (e : Int) := by omega
                have c32 : (e : Int) < (b : Int) := by omega
                have HC3 := hide (HIH.out mid e b d2 w2 (by omega) (Z2.out) V2.out hc3.1 hc3.2 hb)
                go_wp2_with fail
                all_goals (
                  refine HC3.out.mono ?_
                  rintro _ w3 ⟨rfl, d3, V3, M3⟩
                  have V3 := hide V3
                  have M3 := hide M3
                  go_wp2 <;> (go_end0; exact ⟨rfl, d3, V3.out, sym_plain (by rw [HS.out]; exact hb) (by omega) (by omega) q1 q2 q3 q4 q5 q6 he FL.out FU.out P1.out RT.out M2.out M3.out⟩))
              · by_cases c3 : mid < e
                · have c31 : (mid : Int) < (e : Int) := by omega
                  have c32 : ¬ (e : Int) < (b : Int) := by omega
                  have M3 := hide (Mrg.triv (ltOf (cfI s zs it)) ix (a := mid) (m := e) (b := b) d2 (by omega))
                  obtain ⟨d3, hd3⟩ : ∃ d3, d3 = d2 := ⟨_, rfl⟩
                  have V3 := V2
                  rw [← hd3] at V3
                  have M3 : Hid (Mrg (ltOf (cfI s zs it)) ix mid e b d2 d3) := hide (by rw [hd3]; exact M3.out)
                  go_wp2 <;> (go_end0; exact ⟨rfl, d3, V3.out, sym_plain (by rw [HS.out]; exact hb) (by omega) (by omega) q1 q2 q3 q4 q5 q6 he FL.out FU.out P1.out RT.out M2.out M3.out⟩)
                · have c31 : ¬ (mid : Int) < (e : Int) := by omega
                  have M3 := hide (Mrg.triv (ltOf (cfI s zs it)) ix (a := mid) (m := e) (b := b) d2 (by omega))
                  obtain ⟨d3, hd3⟩ : ∃ d3, d3 = d2 := ⟨_, rfl⟩
                  have V3 := V2
                  rw [← hd3] at V3
                  have M3 : Hid (Mrg (ltOf (cfI s zs it)) ix mid e b d2 d3) := hide (by rw [hd3]; exact M3.out)
                  go_wp2 <;> (go_end0; exact ⟨rfl, d3, V3.out, sym_plain (by rw [HS.out]; exact hb) (by omega) (by omega) q1 q2 q3 q4 q5 q6 he FL.out FU.out P1.out RT.out M2.out M3.out⟩)
            · have M2 : Hid (Mrg (ltOf (cfI s zs it)) ix a u mid d1 d1) := hide (Mrg.triv (ltOf (cfI s zs it)) ix d1 (by omega))
              obtain ⟨d2, hd2⟩ : ∃ d2, d2 = d1 := ⟨_, rfl⟩
              have V2 : Hid (SWK (encI it) 2 w0 blk off d2 w1) := hide (by rw [hd2]; exact V1.out)
              have M2 : Hid (Mrg (ltOf (cfI s zs it)) ix a u mid d1 d2) := hide (by rw [hd2]; exact M2.out)
              have Z2 : Hid (d2.size = d0.size) := hide (by rw [hd2]; exact Z1.out)
              clear hd2
              obtain ⟨w2, hw2⟩ : ∃ w2 : World, w2 = w1 := ⟨_, rfl⟩
              rw [← hw2] at V2 ⊢
              clear hw2
              by_cases c2 : a < u
              · have c21 : (a : Int) < (u : Int) := by omega
                have c22 : ¬ (u : Int) < (mid : Int) := by omega
                by_cases hc3 : mid < e ∧ e < b
                · have c31 : (mid : Int) < (e : Int) := by omega
                  have c32 : (e : Int) < (b : Int) := by omega
                  have HC3 := hide (HIH.out mid e b d2 w2 (by omega) (Z2.out) V2.out hc3.1 hc3.2 hb)
                  go_wp2_with fail
                  all_goals (
                    refine HC3.out.mono ?_
                    rintro _ w3 ⟨rfl, d3, V3, M3⟩
                    have V3 := hide V3
                    have M3 := hide M3
                    go_wp2 <;> (go_end0; exact ⟨rfl, d3, V3.out, sym_plain (by rw [HS.out]; exact hb) (by omega) (by omega) q1 q2 q3 q4 q5 q6 he FL.out FU.out P1.out RT.out M2.out M3.out⟩))
                · by_cases c3 : mid < e
                  · have c31 : (mid : Int) < (e : Int) := by omega
                    have c32 : ¬ (e : Int) < (b : Int) := by omega
                    have M3 := hide (Mrg.triv (ltOf (cfI s zs it)) ix (a := mid) (m := e) (b := b) d2 (by omega))
                    obtain ⟨d3, hd3⟩ : ∃ d3, d3 = d2 := ⟨_, rfl⟩
                    have V3 := V2
                    rw [← hd3] at V3
                    have M3 : Hid (Mrg (ltOf (cfI s zs it)) ix mid e b d2 d3) := hide (by rw [hd3]; exact M3.out)
                    go_wp2 <;> (go_end0; exact ⟨rfl, d3, V3.out, sym_plain (by rw [HS.out]; exact hb) (by omega) (by omega) q1 q2 q3 q4 q5 q6 he FL.out FU.out P1.out RT.out M2.out M3.out⟩)
                  · have c31 : ¬ (mid : Int) < (e : Int) := by omega
                    have M3 := hide (Mrg.triv (ltOf (cfI s zs it)) ix (a := mid) (m := e) (b := b) d2 (by omega))
                    obtain ⟨d3, hd3⟩ : ∃ d3, d3 = d2 := ⟨_, rfl⟩
                    have V3 := V2
                    rw [← hd3] at V3
                    have M3 : Hid (Mrg (ltOf (cfI s zs it)) ix mid e b d2 d3) := hide (by rw [hd3]; exact M3.out)
                    go_wp2 <;> (go_end0; exact ⟨rfl, d3, V3.out, sym_plain (by rw [HS.out]; exact hb) (by omega) (by omega) q1 q2 q3 q4 q5 q6 he FL.out FU.out P1.out RT.out M2.out M3.out⟩)
              · have c21 : ¬ (a : Int) < (u : Int) := by omega
                by_cases hc3 : mid < e ∧ e < b
                · have c31 : (mid : Int) < (e : Int) := by omega
                  have c32 : (e : Int) < (b : Int) := by omega
                  have HC3 := hide (HIH.out mid e b d2 w2 (by omega) (Z2.out) V2.out hc3.1 hc3.2 hb)
                  go_wp2_with fail
                  all_goals (
                    refine HC3.out.mono ?_
                    rintro _ w3 ⟨rfl, d3, V3, M3⟩
                    have V3 := hide V3
                    have M3 := hide M3
                    go_wp2 <;> (go_end0; exact ⟨rfl, d3, V3.out, sym_plain (by rw [HS.out]; exact hb) (by omega) (by omega) q1 q2 q3 q4 q5 q6 he FL.out FU.out P1.out RT.out M2.out M3.out⟩))
                · by_cases c3 : mid < e
                  · have c31 : (mid : Int) < (e : Int) := by omega
                    have c32 : ¬ (e : Int) < (b : Int) := by omega
                    have M3 := hide (Mrg.triv (ltOf (cfI s zs it)) ix (a := mid) (m := e) (b := b) d2 (by omega))
                    obtain ⟨d3, hd3⟩ : ∃ d3, d3 = d2 := ⟨_, rfl⟩
                    have V3 := V2
                    rw [← hd3] at V3
                    have M3 : Hid (Mrg (ltOf (cfI s zs it)) ix mid e b d2 d3) := hide (by rw [hd3]; exact M3.out)
                    go_wp2 <;> (go_end0; exact ⟨rfl, d3, V3.out, sym_plain (by rw [HS.out]; exact hb) (by omega) (by omega) q1 q2 q3 q4 q5 q6 he FL.out FU.out P1.out RT.out M2.out M3.out⟩)
                  · have c31 : ¬ (mid : Int) < (e : Int) := by omega
                    have M3 := hide (Mrg.triv (ltOf (cfI s zs it)) ix (a := mid) (m := e) (b := b) d2 (by omega))
                    obtain ⟨d3, hd3⟩ : ∃ d3, d3 = d2 := ⟨_, rfl⟩
                    have V3 := V2
                    rw [← hd3] at V3
                    have M3 : Hid (Mrg (ltOf (cfI s zs it)) ix mid e b d2 d3) := hide (by rw [hd3]; exact M3.out)
                    go_wp2 <;> (go_end0; exact ⟨rfl, d3, V3.out, sym_plain (by rw [HS.out]; exact hb) (by omega) (by omega) q1 q2 q3 q4 q5 q6 he FL.out FU.out P1.out RT.out M2.out M3.out⟩)
          · have c11 : ¬ (u : Int) < (m : Int) := by omega
            by_cases hc2 : a < u ∧ u < mid
            · have c21 : (a : Int) < (u : Int) := by omega
              have c22 : (u : Int) < (mid : Int) := by omega
              have HC2 := hide (HIH.out a u mid d1 w1 (by omega) (Z1.out) V1.out hc2.1 hc2.2 (by omega))
              go_wp2_with fail
              refine HC2.out.mono ?_
              rintro _ w2 ⟨rfl, d2, V2, M2⟩
              have V2 := hide V2
              have M2 := hide M2
              have Z2 : Hid (d2.size = d0.size) := hide (M2.out.1.1.trans Z1.out)
              by_cases hc3 : mid < e ∧ e < b
              · have c31 : (mid : Int) < (e : Int) := by omega
                have c32 : (e : Int) < (b : Int) := by omega
                have HC3 := hide (HIH.out mid e b d2 w2 (by omega) (Z2.out) V2.out hc3.1 hc3.2 hb)
                go_wp2_with fail
                all_goals (
                  refine HC3.out.mono ?_
                  rintro _ w3 ⟨rfl, d3, V3, M3⟩
                  have V3 := hide V3
                  have M3 := hide M3
                  go_wp2 <;> (go_end0; exact ⟨rfl, d3, V3.out, sym_plain (by rw [HS.out]; exact hb) (by omega) (by omega) q1 q2 q3 q4 q5 q6 he FL.out FU.out P1.out RT.out M2.out M3.out⟩))
              · by_cases c3 : mid < e
                · have c31 : (mid : Int) < (e : Int) := by omega
                  have c32 : ¬ (e : Int) < (b : Int) := by omega
                  have M3 := hide (Mrg.triv (ltOf (cfI s zs it)) ix (a := mid) (m := e) (b := b) d2 (by omega))
                  obtain ⟨d3, hd3⟩ : ∃ d3, d3 = d2 := ⟨_, rfl⟩
                  have V3 := V2
                  rw [← hd3] at V3
                  have M3 : Hid (Mrg (ltOf (cfI s zs it)) ix mid e b d2 d3) := hide (by rw [hd3]; exact M3.out)
                  go_wp2 <;> (go_end0; exact ⟨rfl, d3, V3.out, sym_plain (by rw [HS.out]; exact hb) (by omega) (by omega) q1 q2 q3 q4 q5 q6 he FL.out FU.out P1.out RT.out M2.out M3.out⟩)
                · have c31 : ¬ (mid : Int) < (e : Int) := by omega
                  have M3 := hide (Mrg.triv (ltOf (cfI s zs it)) ix (a := mid) (m := e) (b := b) d2 (by omega))
                  obtain ⟨d3, hd3⟩ : ∃ d3, d3 = d2 := ⟨_, rfl⟩
                  have V3 := V2
                  rw [← hd3] at V3
                  have M3 : Hid (Mrg (ltOf (cfI s zs it)) ix mid e b d2 d3) := hide (by rw [hd3]; exact M3.out)
                  go_wp2 <;> (go_end0; exact ⟨rfl, d3, V3.out, sym_plain (by rw [HS.out]; exact hb) (by omega) (by omega) q1 q2 q3 q4 q5 q6 he FL.out FU.out P1.out RT.out M2.out M3.out⟩)
            · have M2 : Hid (Mrg (ltOf (cfI s zs it)) ix a u mid d1 d1) := hide (Mrg.triv (ltOf (cfI s zs it)) ix d1 (by omega))
              obtain ⟨d2, hd2⟩ : ∃ d2, d2 = d1 := ⟨_, rfl⟩
              have V2 : Hid (SWK (encI it) 2 w0 blk off d2 w1) := hide (by rw [hd2]; exact V1.out)
              have M2 : Hid (Mrg (ltOf (cfI s zs it)) ix a u mid d1 d2) := hide (by rw [hd2]; exact M2.out)
              have Z2 : Hid (d2.size = d0.size) := hide (by rw [hd2]; exact Z1.out)
              clear hd2
              obtain ⟨w2, hw2⟩ : ∃ w2 : World, w2 = w1 := ⟨_, rfl⟩
              rw [← hw2] at V2 ⊢
              clear hw2
              by_cases c2 : a < u
              · have c21 : (a : Int) < (u : Int) := by omega
                have c22 : ¬ (u : Int) < (mid : Int) := by omega
                by_cases hc3 : mid < e ∧ e < b
                · have c31 : (mid : Int) < (e : Int) := by omega
                  have c32 : (e : Int) < (b : Int) := by omega
                  have HC3 := hide (HIH.out mid e b d2 w2 (by omega) (Z2.out) V2.out hc3.1 hc3.2 hb)
                  go_wp2_with fail
                  all_goals (
                    refine HC3.out.mono ?_
                    rintro _ w3 ⟨rfl, d3, V3, M3⟩
                    have V3 := hide V3
                    have M3 := hide M3
                    go_wp2 <;> (go_end0; exact ⟨rfl, d3, V3.out, sym_plain (by rw [HS.out]; exact hb) (by omega) (by omega) q1 q2 q3 q4 q5 q6 he FL.out FU.out P1.out RT.out M2.out M3.out⟩))
                · by_cases c3 : mid < e
                  · have c31 : (mid : Int) < (e : Int) := by omega
                    have c32 : ¬ (e : Int) < (b : Int) := by omega
                    have M3 := hide (Mrg.triv (ltOf (cfI s zs it)) ix (a := mid) (m := e) (b := b) d2 (by omega))
                    obtain ⟨d3, hd3⟩ : ∃ d3, d3 = d2 := ⟨_, rfl⟩
                    have V3 := V2
                    rw [← hd3] at V3
                    have M3 : Hid (Mrg (ltOf (cfI s zs it)) ix mid e b d2 d3) := hide (by rw [hd3]; exact M3.out)
                    go_wp2 <;> (go_end0; exact ⟨rfl, d3, V3.out, sym_plain (by rw [HS.out]; exact hb) (by omega) (by omega) q1 q2 q3 q4 q5 q6 he FL.out FU.out P1.out RT.out M2.out M3.out⟩)
                  · have c31 : ¬ (mid : Int) < (e : Int) := by omega
                    have M3 := hide (Mrg.triv (ltOf (cfI s zs it)) ix (a := mid) (m := e) (b := b) d2 (by omega))
                    obtain ⟨d3, hd3⟩ : ∃ d3, d3 = d2 := ⟨_, rfl⟩
                    have V3 := V2
                    rw [← hd3] at V3
                    have M3 : Hid (Mrg (ltOf (cfI s zs it)) ix mid e b d2 d3) := hide (by rw [hd3]; exact M3.out)
                    go_wp2 <;> (go_end0; exact ⟨rfl, d3, V3.out, sym_plain (by rw [HS.out]; exact hb) (by omega) (by omega) q1 q2 q3 q4 q5 q6 he FL.out FU.out P1.out RT.out M2.out M3.out⟩)
              · have c21 : ¬ (a : Int) < (u : Int) := by omega
                by_cases hc3 : mid < e ∧ e < b
                · have c31 : (mid : Int) < (e : Int) := by omega
                  have c32 : (e : Int) < (b : Int) := by omega
                  have HC3 := hide (HIH.out mid e b d2 w2 (by omega) (Z2.out) V2.out hc3.1 hc3.2 hb)
                  go_wp2_with fail
                  all_goals (
                    refine HC3.out.mono ?_
                    rintro _ w3 ⟨rfl, d3, V3, M3⟩
                    have V3 := hide V3
                    have M3 := hide M3
                    go_wp2 <;> (go_end0; exact ⟨rfl, d3, V3.out, sym_plain (by rw [HS.out]; exact hb) (by omega) (by omega) q1 q2 q3 q4 q5 q6 he FL.out FU.out P1.out RT.out M2.out M3.out⟩))
                · by_cases c3 : mid < e
                  · have c31 : (mid : Int) < (e : Int) := by omega
                    have c32 : ¬ (e : Int) < (b : Int) := by omega
                    have M3 := hide (Mrg.triv (ltOf (cfI s zs it)) ix (a := mid) (m := e) (b := b) d2 (by omega))
                    obtain ⟨d3, hd3⟩ : ∃ d3, d3 = d2 := ⟨_, rfl⟩
                    have V3 := V2
                    rw [← hd3] at V3
                    have M3 : Hid (Mrg (ltOf (cfI s zs it)) ix mid e b d2 d3) := hide (by rw [hd3]; exact M3.out)
                    go_wp2 <;> (go_end0; exact ⟨rfl, d3, V3.out, sym_plain (by rw [HS.out]; exact hb) (by omega) (by omega) q1 q2 q3 q4 q5 q6 he FL.out FU.out P1.out RT.out M2.out M3.out⟩)
                  · have c31 : ¬ (mid : Int) < (e : Int) := by omega
                    have M3 := hide (Mrg.triv (ltOf (cfI s zs it)) ix (a := mid) (m := e) (b := b) d2 (by omega))
                    obtain ⟨d3, hd3⟩ : ∃ d3, d3 = d2 := ⟨_, rfl⟩
                    have V3 := V2
                    rw [← hd3] at V3
                    have M3 : Hid (Mrg (ltOf (cfI s zs it)) ix mid e b d2 d3) := hide (by rw [hd3]; exact M3.out)
                    go_wp2 <;> (go_end0; exact ⟨rfl, d3, V3.out, sym_plain (by rw [HS.out]; exact hb) (by omega) (by omega) q1 q2 q3 q4 q5 q6 he FL.out FU.out P1.out RT.out M2.out M3.out⟩)
end Go.Proofs.Ytiocgmeonfanmaa
