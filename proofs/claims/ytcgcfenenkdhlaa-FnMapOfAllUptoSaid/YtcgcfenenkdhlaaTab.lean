/-
  spec.Table: by key, each key once, with its last value.
-/
import Derived.WalkKit
import Derived.WalkLawsBesides
import Derived.Outline
import Derived.BigQuiet
import Derived.Deep.DeepMust
import Derived.Deep.AppendLies
import Derived.Test.YtcgcfenenkdhlaaTabP
import Derived.Test.YtcgcfenenkdhlaaSpec
import Derived.Test.YtcgcfenenkdhlaaAppR
namespace Go.Proofs.Ytcgcfenenkdhlaa
open Go.RowKit
set_option linter.unusedVariables false
set_option linter.unusedSimpArgs false

theorem infoSE : (Try.prog.info? 58).map (fun i => (i.zero, i.size, i.bytes)) = some (some (.agg #[.int .i64 0, .int .i64 0]), 2, 16) := by kernel_rfl
theorem own_belowE {w w' : World} {base B : Nat} {e : TypeId} {sz : Nat} {v : Value} {n : Nat} {xs : List Value} (h : w.ownsRow base e sz v n xs) (hb : Below B w w') (hB : w.heap.size ≤ B) : w'.ownsRow base e sz v n xs :=
  ⟨h.1, h.2.imp id fun ⟨g, cap, cur, e1, e2, e3, e4⟩ => ⟨g, cap, cur, e1, e2, (hb.block g (by have := (Array.getElem?_eq_some_iff.1 e3).1; omega)).trans e3, e4⟩⟩
theorem grown_tr {a b c : World} {row : Option Nat} (h : a.grownBy b row) (k : b.grownBy c row) : a.grownBy c row :=
  ⟨k.os.trans h.os, k.tape.trans h.tape, k.output.trans h.output, Nat.le_trans h.size k.size, fun i hi hne => (k.block i (Nat.lt_of_lt_of_le hi h.size) hne).trans (h.block i hi hne)⟩
set_option maxRecDepth 100000 in
set_option maxHeartbeats 4000000 in
theorem specTable (a : Option Addr) (len cap : Nat) (zs : List (Int × Int)) (hreach : len * 16 ≤ 140737488351232) (hcap : len ≤ cap) (w : World) (hI : Rd w w.heap.size 2 a len (pairs zs)) :
    Calls Try.prog 44 #[.slice a len cap] w fun e w' => ∃ A c t, e = .returned (.slice A t.length c) ∧ w'.ownsRow w.heap.size 58 2 (.slice A t.length c) t.length (pairs t) ∧ Tab t (lk zs) ∧ t.length ≤ len ∧ Below w.heap.size w w' := by
  have hzl : zs.length = len := by have := hI.1; rw [pairs_length] at this; omega
  have HZ := hide hzl
  clear hzl
  obtain ⟨i0, hi, hz0, hz1, hz2⟩ := info_parts infoSE
  go_enter Try.func44, Try.ntmps44
  go_wp2_with fail
  go_loopw [3, 13] (fun v i wr => ∃ k : Nat, k ≤ len ∧ i = .int .i64 k ∧ ∃ t, t.length ≤ k ∧ wr.ownsRow w.heap.size 58 2 v t.length (pairs t) ∧ Hid (TI zs k t) ∧ Below w.heap.size w wr) (fun _ i _ => len - (RowKit.intOf i).toNat)
  case atStart => exact ⟨0, Nat.zero_le _, rfl, [], Nat.le_refl _, World.ownsRow_nil _ _ _ _, hide (TI.zero zs), Below.refl _ _⟩
  case round =>
    obtain ⟨k, hk, rfl, t, htk, hown, hTI, hB⟩ := hrel
    have hsz := hB.size
    obtain ⟨Ao, co, rfl⟩ := own_slice hown
    by_cases hlt : k < len
    · obtain ⟨b, off, x, y, rfl, hb, hx, hc1, hc2⟩ := (hI.below hB).pair hlt
      obtain ⟨mm, hmm⟩ : ∃ mm, len = k + 1 + mm := ⟨len - (k + 1), by omega⟩
      subst hmm
      obtain ⟨wR, hwR⟩ : ∃ w0 : World, w0 = wr := ⟨_, rfl⟩
      rw [← hwR] at hown hB hsz hc1 hc2 ⊢
      clear hwR
      have hzr := HZ.out
      obtain ⟨S0, hS0⟩ : ∃ S0, S0 = zs.length := ⟨_, rfl⟩
      by_cases hcp : cap = k + 1 <;> (try subst hcp) <;> (
        go_wp2_with fail
        have e1 : (wR.alloc (.cells #[.int .i64 x, .int .i64 y] 58)).cell? ⟨wR.heap.size, 0, none⟩ = some (.int .i64 x) := by simp [go_sem]
        have e2 : (wR.alloc (.cells #[.int .i64 x, .int .i64 y] 58)).cell? ⟨wR.heap.size, 1, none⟩ = some (.int .i64 y) := by simp [go_sem]
        obtain ⟨wE, hwE⟩ : ∃ wE, wE = wR.alloc (.cells #[.int .i64 x, .int .i64 y] 58) := ⟨_, rfl⟩
        have hsE : wE.heap.size = wR.heap.size + 1 := by rw [hwE]; simp
        have hownE : wE.ownsRow w.heap.size 58 2 (.slice Ao t.length co) t.length (pairs t) := by rw [hwE]; exact hown.alloc _
        have hBE : Below w.heap.size w wE := by rw [hwE]; exact hB.alloc hsz _
        rw [← hwE] at e1 e2 ⊢
        clear hwE
        go_loopw [6, 23] (fun l i wr => ∃ j : Nat, j ≤ mm ∧ i = .int .i64 j ∧ l = .bool (lastB zs k x j) ∧ Below (wR.heap.size + 1) wE wr) (fun _ i _ => mm - (RowKit.intOf i).toNat)
        case atStart => exact ⟨0, Nat.zero_le _, rfl, by rw [lastB_zero], Below.refl _ _⟩
        case round =>
          obtain ⟨j, hj, rfl, rfl, hBx⟩ := hrel
          have f1 := (hBx.cell (p := ⟨wR.heap.size, 0, none⟩) (by simp)).trans e1
          have f2 := (hBx.cell (p := ⟨wR.heap.size, 1, none⟩) (by simp)).trans e2
          have hsx := hBx.size
          by_cases hjm : j < mm
          · obtain ⟨b', off', x', y', hbe, hb', hx', hd1, hd2⟩ := (hI.below (hBE.trans (hBx.mono (by omega)))).pair (k := k + 1 + j) (by omega)
            injection hbe with hbe
            injection hbe with hbe1 hbe2
            subst hbe1 hbe2
            have g1 : wr.cell? ⟨b, off + (k + 1) * 2 + j * 2, none⟩ = some (.int .i64 x') := by rw [show off + (k + 1) * 2 + j * 2 = off + (k + 1 + j) * 2 by omega]; exact hd1
            have g2 : wr.cell? ⟨b, off + (k + 1) * 2 + j * 2 + 1, none⟩ = some (.int .i64 y') := by rw [show off + (k + 1) * 2 + j * 2 + 1 = off + (k + 1 + j) * 2 + 1 by omega]; exact hd2
            clear hd1 hd2
            have f1' := (World.cell?_alloc_lt wr (.cells #[.int .i64 x', .int .i64 y'] 58) ⟨wR.heap.size, 0, none⟩ (by simp; omega)).trans f1
            by_cases hxx : x' = x
            · have hl := lastB_eq hx'.out hxx
              have HL := hide hl
              have hxx' : (x' == x) = true := by simpa using hxx
              clear hl hxx
              first
                | omega
                | (go_wp2
                   go_roundw
                   case rel => exact ⟨j + 1, by omega, by go_num, by rw [HL.out], hBx.alloc (by omega) _⟩
                   case measure => simp [RowKit.intOf]; omega)
            · have hl := lastB_ne hx'.out hxx
              have HL := hide hl
              have hxx' : (x' == x) = false := by simpa using hxx
              clear hl hxx
              first
                | omega
                | (go_wp2
                   go_roundw
                   case rel => exact ⟨j + 1, by omega, by go_num, by rw [HL.out], hBx.alloc (by omega) _⟩
                   case measure => simp [RowKit.intOf]; omega)
          · obtain rfl : j = mm := by omega
            have hownx : wr.ownsRow w.heap.size 58 2 (.slice Ao t.length co) t.length (pairs t) := own_belowE hownE hBx (by omega)
            have hBw : Below w.heap.size w wr := hBE.trans (hBx.mono (by omega))
            cases hl : lastB zs k x j with
            | false =>
              have HT : Hid (TI zs (k + 1) t) := hide (hTI.out.skip hx.out (fun hh => by rw [(lastB_all hzr).2 hh] at hl; cases hl))
              go_wp2
              go_roundw
              case rel => exact ⟨k + 1, by omega, by go_num, t, by omega, hownx, HT, hBw⟩
              case measure => simp [RowKit.intOf]; omega
            | true =>
              have HA := hide ((lastB_all hzr).1 hl)
              obtain ⟨wX, hwX⟩ : ∃ w0 : World, w0 = wr := ⟨_, rfl⟩
              rw [← hwX] at hownx hBw f1 f2 hBx hsx ⊢
              clear hwX
              have hszx := hBw.size
              have HSX : Hid (wR.heap.size < wX.heap.size) := hide (by omega)
              go_wp2_with fail
              go_loopw [9] (fun i wr => ∃ p : Nat, p ≤ t.length ∧ i = .int .i64 p ∧ Hid (∀ q ∈ t.take p, q.1 < x) ∧ Hid (Drew wX wr)) (fun i _ => t.length - (RowKit.intOf i).toNat)
              case atStart => exact ⟨0, Nat.zero_le _, rfl, hide (by simp), hide (Drew.refl _)⟩
              case round =>
                obtain ⟨p, hp, rfl, hbef, hdr⟩ := hrel
                have hownr := own_drew hownx hdr.out
                have f1r := (hdr.out.cell ⟨wR.heap.size, 0, none⟩).trans f1
                have f2r := (hdr.out.cell ⟨wR.heap.size, 1, none⟩).trans f2
                have hBr : Below w.heap.size w wr := hBw.trans (hdr.out.below _)
                have hszr := hBr.size
                have HSS : Hid (wr.heap.size = wX.heap.size) := hide (by rw [hdr.out.heap])
                by_cases hpl : p < t.length
                · obtain ⟨bo, oo, x', y', rfl, hbo, hx', hd1, hd2⟩ := (Rd.of_own hownr).pair hpl
                  have hpi : (p : Int) < (t.length : Int) := by omega
                  by_cases hxx : x' < x
                  · have HB := hide (fun (q : Int × Int) (hq : q ∈ t.take (p + 1)) => show q.1 < x by rw [take_snoc' hx'.out] at hq; rcases List.mem_append.1 hq with hq | hq; exact hbef.out q hq; simp at hq; rw [hq]; exact hxx)
                    go_wp2
                    go_quiet (fail)
                    go_wp2
                    go_roundw
                    case rel => exact ⟨p + 1, by omega, by go_num, HB, hide (hdr.out.drewN _)⟩
                    case measure => simp [RowKit.intOf]; omega
                  · have HN := hide (fun (q : Int × Int) (hq : t[p]? = some q) => show x ≤ q.1 by rw [hx'.out] at hq; cases hq; exact Int.not_lt.1 hxx)
                    have hxx' : decide (x' < x) = false := by simpa using hxx
                    go_wp2
                    go_quiet (fail)
                    have hdY : Drew wr (wr.drewN nq) := (Drew.refl wr).drewN nq
                    have hownY := own_drew hownr hdY
                    have f1Y := (hdY.cell ⟨wR.heap.size, 0, none⟩).trans f1r
                    have f2Y := (hdY.cell ⟨wR.heap.size, 1, none⟩).trans f2r
                    have hBY : Below w.heap.size w (wr.drewN nq) := hBr.trans (hdY.below _)
                    have hsY : (wr.drewN nq).heap.size = wX.heap.size := by rw [hdY.heap]; exact HSS.out
                    generalize wr.drewN nq = wY at hownY f1Y f2Y hBY hsY ⊢
                    clear hdY hownr f1r f2r hBr
                    have HSY := hide hsY
                    clear hsY
                    go_wp2_with (at_builtin; go_must (refine wpList_append_lies _ rfl _ _ 57 rfl w.heap.size 58 i0 (.agg #[.int .i64 0, .int .i64 0]) 2 16 Try.underlying57 hi hz0 hz1 hz2 rfl (by decide) _ _ _ rfl (hownY.alloc _) ⟨wY.heap.size, 0, none⟩ 1 1 [.int .i64 0, .int .i64 0] rfl rfl (cell_two_new _ _ _ _) (by simp [Value.oneCell']) (by decide) (by unfold maxLen; omega) (by omega) (by have := hBY.size; simp; omega) _ rfl ?_); intro g cap' w2 hown' hgrow hat hlt2)
                    have hB2 : Below w.heap.size w w2 := below_append hBY hBY.size (Nat.le_refl _) hownY hgrow
                    have hfar := fun e => (hown.lt wR.heap.size e).2
                    have hge : wR.heap.size ≠ g := by
                      rcases hat with h | h
                      · first | (intro e; subst e; exact absurd (hfar h) (by omega)) | simp at h
                      · intro e; have := HSY.out; have := HSX.out; simp at h; omega
                    have k1 : w2.cell? ⟨wR.heap.size, 0, none⟩ = some (.int .i64 x) := (hgrow.cell_far ⟨wR.heap.size, 0, none⟩ (by have := HSY.out; have := HSX.out; simp; omega) (fun e => absurd (hfar e.symm) (by omega))).trans ((World.cell?_alloc_lt _ _ ⟨wR.heap.size, 0, none⟩ (by have := HSY.out; have := HSX.out; simp; omega)).trans f1Y)
                    have k2 : w2.cell? ⟨wR.heap.size, 1, none⟩ = some (.int .i64 y) := (hgrow.cell_far ⟨wR.heap.size, 1, none⟩ (by have := HSY.out; have := HSX.out; simp; omega) (fun e => absurd (hfar e.symm) (by omega))).trans ((World.cell?_alloc_lt _ _ ⟨wR.heap.size, 1, none⟩ (by have := HSY.out; have := HSX.out; simp; omega)).trans f2Y)
                    have hgb : w.heap.size ≤ g := (hown'.lt g rfl).1
                    have hs2 := hB2.size
                    have own4 : w2.ownsRow w.heap.size 58 2 (.slice (some ⟨g, 0, none⟩) (t.length + 1) cap') (t.length + 1) (pairs (t.take t.length ++ [(0, 0)] ++ t.drop t.length)) := by rw [List.take_length, List.drop_length, List.append_nil, pairs_append, pairs_one]; exact hown'
                    have HS2 : Hid (wR.heap.size < w2.heap.size) := hide (by have := hgrow.size; have := HSY.out; have := HSX.out; rw [World.size_alloc] at *; omega)
                    clear hown' hgrow hat
                    clear hownY hown hownx hownE f1Y f2Y f1 f2 e1 e2
                    go_wp2_with fail
                    go_loopw [10] (fun i wr => ∃ (q : Nat) (jk : Int × Int), p ≤ q ∧ q ≤ t.length ∧ i = .int .i64 q ∧ wr.ownsRow w.heap.size 58 2 (.slice (some ⟨g, 0, none⟩) (t.length + 1) cap') (t.length + 1) (pairs (t.take q ++ [jk] ++ t.drop q)) ∧ w2.grownBy wr (some g)) (fun i _ => (RowKit.intOf i).toNat)
                    case atStart => exact ⟨t.length, (0, 0), hp, Nat.le_refl _, by go_num, own4, ⟨rfl, rfl, rfl, Nat.le_refl _, fun _ _ _ => rfl⟩⟩
                    case round =>
                      obtain ⟨q, jk, hpq, hq, rfl, hownq, hgq⟩ := hrel
                      have m1 := (hgq.cell_far ⟨wR.heap.size, 0, none⟩ HS2.out (fun e => hge (by simpa using e))).trans k1
                      have m2 := (hgq.cell_far ⟨wR.heap.size, 1, none⟩ HS2.out (fun e => hge (by simpa using e))).trans k2
                      by_cases hlq : p < q
                      · obtain ⟨r, rfl⟩ : ∃ r, q = r + 1 := ⟨q - 1, by omega⟩
                        obtain ⟨b', off', x1, y1, hbe, hb', hx1, hd1, hd2⟩ := (Rd.of_own hownq).pair (k := r) (by omega)
                        injection hbe with hbe
                        injection hbe with hbe1 hbe2
                        subst hbe1 hbe2
                        rw [Nat.zero_add] at hd1 hd2
                        have fr1 := hownq.frozenAt ((r + 1) * 2)
                        have fr2 := hownq.frozenAt ((r + 1) * 2 + 1)
                        have ht1 : t[r]? = some (x1, y1) := by rw [← shift_at (jk := jk) (show r < t.length by omega)]; exact hx1.out
                        have HT1 := hide ht1
                        clear ht1
                        obtain ⟨b3, off3, x3, y3, hbe3, hb3, hx3, hd3, hd4⟩ := (Rd.of_own hownq).pair (k := r + 1) (by omega)
                        injection hbe3 with hbe3
                        injection hbe3 with hbe31 hbe32
                        subst hbe31 hbe32
                        rw [Nat.zero_add] at hd3 hd4
                        clear hb3 hx3
                        obtain ⟨o1, gr1⟩ := hownq.stored ((r + 1) * 2) (.int .i64 x1)
                        obtain ⟨o2, gr2⟩ := o1.stored ((r + 1) * 2 + 1) (.int .i64 y1)
                        rw [pairs_set, shift_step HT1.out] at o2
                        have HO2 := hide o2
                        have HG2 := hide (grown_tr hgq (grown_tr gr1 gr2))
                        clear o1 o2 gr1 gr2
                        go_wp2
                        all_goals (
                          go_roundw
                          case rel => exact ⟨r, (x1, y1), by omega, by omega, rfl, HO2.out, HG2.out⟩
                          case measure => simp [RowKit.intOf]; try omega)
                      · obtain rfl : q = p := by omega
                        obtain ⟨b3, off3, x3, y3, hbe3, hb3, hx3, hd3, hd4⟩ := (Rd.of_own hownq).pair (k := q) (by omega)
                        injection hbe3 with hbe3
                        injection hbe3 with hbe31 hbe32
                        subst hbe31 hbe32
                        rw [Nat.zero_add] at hd3 hd4
                        clear hb3 hx3
                        have fr1 := hownq.frozenAt (q * 2)
                        have fr2 := hownq.frozenAt (q * 2 + 1)
                        obtain ⟨o1, gr1⟩ := hownq.stored (q * 2) (.int .i64 x)
                        obtain ⟨o2, gr2⟩ := o1.stored (q * 2 + 1) (.int .i64 y)
                        rw [pairs_set, shift_end hq] at o2
                        have HO2 := hide o2
                        have HB3 := hide (hB2.grown (grown_tr hgq (grown_tr gr1 gr2)) hs2 (fun k e => by cases e; exact hgb))
                        have HT3 := hide (hTI.out.put hx.out HA.out hbef.out (fun q' hq' => Int.not_lt.2 (HN.out q' hq')))
                        have hl3 : (t.take q ++ [(x, y)] ++ t.drop q).length = t.length + 1 := by simp; omega
                        have HL3 := hide hl3
                        clear o1 o2 gr1 gr2 hl3
                        go_wp2
                        go_roundw
                        case rel => (repeat apply Exists.intro); exact ⟨⟨k + 1, by omega, by go_num, _, by rw [HL3.out]; omega, by rw [HL3.out]; exact HO2.out, HT3, HB3.out⟩, ⟨rfl, rfl, rfl, rfl, rfl, rfl, rfl, rfl⟩⟩
                        case measure => simp [RowKit.intOf]; omega
                · have HN := hide (fun (q : Int × Int) (hq : t[p]? = some q) => show x ≤ q.1 by have := (List.getElem?_eq_some_iff.1 hq).1; omega)
                  have hpi' : decide ((p : Int) < (t.length : Int)) = false := by simp; omega
                  go_wp2
                  go_quiet (fail)
                  have hdY : Drew wr (wr.drewN nq) := (Drew.refl wr).drewN nq
                  have hownY := own_drew hownr hdY
                  have f1Y := (hdY.cell ⟨wR.heap.size, 0, none⟩).trans f1r
                  have f2Y := (hdY.cell ⟨wR.heap.size, 1, none⟩).trans f2r
                  have hBY : Below w.heap.size w (wr.drewN nq) := hBr.trans (hdY.below _)
                  have hsY : (wr.drewN nq).heap.size = wX.heap.size := by rw [hdY.heap]; exact HSS.out
                  generalize wr.drewN nq = wY at hownY f1Y f2Y hBY hsY ⊢
                  clear hdY hownr f1r f2r hBr
                  have HSY := hide hsY
                  clear hsY
                  go_wp2_with (at_builtin; go_must (refine wpList_append_lies _ rfl _ _ 57 rfl w.heap.size 58 i0 (.agg #[.int .i64 0, .int .i64 0]) 2 16 Try.underlying57 hi hz0 hz1 hz2 rfl (by decide) _ _ _ rfl (hownY.alloc _) ⟨wY.heap.size, 0, none⟩ 1 1 [.int .i64 0, .int .i64 0] rfl rfl (cell_two_new _ _ _ _) (by simp [Value.oneCell']) (by decide) (by unfold maxLen; omega) (by omega) (by have := hBY.size; simp; omega) _ rfl ?_); intro g cap' w2 hown' hgrow hat hlt2)
                  have hB2 : Below w.heap.size w w2 := below_append hBY hBY.size (Nat.le_refl _) hownY hgrow
                  have hfar := fun e => (hown.lt wR.heap.size e).2
                  have hge : wR.heap.size ≠ g := by
                    rcases hat with h | h
                    · first | (intro e; subst e; exact absurd (hfar h) (by omega)) | simp at h
                    · intro e; have := HSY.out; have := HSX.out; simp at h; omega
                  have k1 : w2.cell? ⟨wR.heap.size, 0, none⟩ = some (.int .i64 x) := (hgrow.cell_far ⟨wR.heap.size, 0, none⟩ (by have := HSY.out; have := HSX.out; simp; omega) (fun e => absurd (hfar e.symm) (by omega))).trans ((World.cell?_alloc_lt _ _ ⟨wR.heap.size, 0, none⟩ (by have := HSY.out; have := HSX.out; simp; omega)).trans f1Y)
                  have k2 : w2.cell? ⟨wR.heap.size, 1, none⟩ = some (.int .i64 y) := (hgrow.cell_far ⟨wR.heap.size, 1, none⟩ (by have := HSY.out; have := HSX.out; simp; omega) (fun e => absurd (hfar e.symm) (by omega))).trans ((World.cell?_alloc_lt _ _ ⟨wR.heap.size, 1, none⟩ (by have := HSY.out; have := HSX.out; simp; omega)).trans f2Y)
                  have hgb : w.heap.size ≤ g := (hown'.lt g rfl).1
                  have hs2 := hB2.size
                  have own4 : w2.ownsRow w.heap.size 58 2 (.slice (some ⟨g, 0, none⟩) (t.length + 1) cap') (t.length + 1) (pairs (t.take t.length ++ [(0, 0)] ++ t.drop t.length)) := by rw [List.take_length, List.drop_length, List.append_nil, pairs_append, pairs_one]; exact hown'
                  have HS2 : Hid (wR.heap.size < w2.heap.size) := hide (by have := hgrow.size; have := HSY.out; have := HSX.out; rw [World.size_alloc] at *; omega)
                  clear hown' hgrow hat
                  clear hownY hown hownx hownE f1Y f2Y f1 f2 e1 e2
                  go_wp2_with fail
                  go_loopw [10] (fun i wr => ∃ (q : Nat) (jk : Int × Int), p ≤ q ∧ q ≤ t.length ∧ i = .int .i64 q ∧ wr.ownsRow w.heap.size 58 2 (.slice (some ⟨g, 0, none⟩) (t.length + 1) cap') (t.length + 1) (pairs (t.take q ++ [jk] ++ t.drop q)) ∧ w2.grownBy wr (some g)) (fun i _ => (RowKit.intOf i).toNat)
                  case atStart => exact ⟨t.length, (0, 0), hp, Nat.le_refl _, by go_num, own4, ⟨rfl, rfl, rfl, Nat.le_refl _, fun _ _ _ => rfl⟩⟩
                  case round =>
                    obtain ⟨q, jk, hpq, hq, rfl, hownq, hgq⟩ := hrel
                    have m1 := (hgq.cell_far ⟨wR.heap.size, 0, none⟩ HS2.out (fun e => hge (by simpa using e))).trans k1
                    have m2 := (hgq.cell_far ⟨wR.heap.size, 1, none⟩ HS2.out (fun e => hge (by simpa using e))).trans k2
                    by_cases hlq : p < q
                    · obtain ⟨r, rfl⟩ : ∃ r, q = r + 1 := ⟨q - 1, by omega⟩
                      obtain ⟨b', off', x1, y1, hbe, hb', hx1, hd1, hd2⟩ := (Rd.of_own hownq).pair (k := r) (by omega)
                      injection hbe with hbe
                      injection hbe with hbe1 hbe2
                      subst hbe1 hbe2
                      rw [Nat.zero_add] at hd1 hd2
                      have fr1 := hownq.frozenAt ((r + 1) * 2)
                      have fr2 := hownq.frozenAt ((r + 1) * 2 + 1)
                      have ht1 : t[r]? = some (x1, y1) := by rw [← shift_at (jk := jk) (show r < t.length by omega)]; exact hx1.out
                      have HT1 := hide ht1
                      clear ht1
                      obtain ⟨b3, off3, x3, y3, hbe3, hb3, hx3, hd3, hd4⟩ := (Rd.of_own hownq).pair (k := r + 1) (by omega)
                      injection hbe3 with hbe3
                      injection hbe3 with hbe31 hbe32
                      subst hbe31 hbe32
                      rw [Nat.zero_add] at hd3 hd4
                      clear hb3 hx3
                      obtain ⟨o1, gr1⟩ := hownq.stored ((r + 1) * 2) (.int .i64 x1)
                      obtain ⟨o2, gr2⟩ := o1.stored ((r + 1) * 2 + 1) (.int .i64 y1)
                      rw [pairs_set, shift_step HT1.out] at o2
                      have HO2 := hide o2
                      have HG2 := hide (grown_tr hgq (grown_tr gr1 gr2))
                      clear o1 o2 gr1 gr2
                      go_wp2
                      all_goals (
                        go_roundw
                        case rel => exact ⟨r, (x1, y1), by omega, by omega, rfl, HO2.out, HG2.out⟩
                        case measure => simp [RowKit.intOf]; try omega)
                    · obtain rfl : q = p := by omega
                      obtain ⟨b3, off3, x3, y3, hbe3, hb3, hx3, hd3, hd4⟩ := (Rd.of_own hownq).pair (k := q) (by omega)
                      injection hbe3 with hbe3
                      injection hbe3 with hbe31 hbe32
                      subst hbe31 hbe32
                      rw [Nat.zero_add] at hd3 hd4
                      clear hb3 hx3
                      have fr1 := hownq.frozenAt (q * 2)
                      have fr2 := hownq.frozenAt (q * 2 + 1)
                      obtain ⟨o1, gr1⟩ := hownq.stored (q * 2) (.int .i64 x)
                      obtain ⟨o2, gr2⟩ := o1.stored (q * 2 + 1) (.int .i64 y)
                      rw [pairs_set, shift_end hq] at o2
                      have HO2 := hide o2
                      have HB3 := hide (hB2.grown (grown_tr hgq (grown_tr gr1 gr2)) hs2 (fun k e => by cases e; exact hgb))
                      have HT3 := hide (hTI.out.put hx.out HA.out hbef.out (fun q' hq' => Int.not_lt.2 (HN.out q' hq')))
                      have hl3 : (t.take q ++ [(x, y)] ++ t.drop q).length = t.length + 1 := by simp; omega
                      have HL3 := hide hl3
                      clear o1 o2 gr1 gr2 hl3
                      go_wp2
                      go_roundw
                      case rel => (repeat apply Exists.intro); exact ⟨⟨k + 1, by omega, by go_num, _, by rw [HL3.out]; omega, by rw [HL3.out]; exact HO2.out, HT3, HB3.out⟩, ⟨rfl, rfl, rfl, rfl, rfl, rfl, rfl, rfl⟩⟩
                      case measure => simp [RowKit.intOf]; omega
                  )
    · obtain rfl : k = len := by omega
      go_wp2
      go_ret
      rw [← HZ.out] at hTI
      exact ⟨_, _, _, rfl, hown, hTI.out.tab, htk, hB⟩
end Go.Proofs.Ytcgcfenenkdhlaa
