/-
  spec.Stable: for a weak order, the list in stable order.
-/
import Derived.Test.YtiocgmeonfanmaaWeak
import Derived.Test.YtiocgmeonfanmaaStabP
namespace Go.Proofs.Ytiocgmeonfanmaa
open Go.RowKit Go.Sort Go.Shelf
set_option linter.unusedVariables false
set_option linter.unusedSimpArgs false

theorem grown_tr {a b c : World} {row : Option Nat} (h : a.grownBy b row) (k : b.grownBy c row) : a.grownBy c row :=
  ⟨k.os.trans h.os, k.tape.trans h.tape, k.output.trans h.output, Nat.le_trans h.size k.size, fun i hi hne => (k.block i (Nat.lt_of_lt_of_le hi h.size) hne).trans (h.block i hi hne)⟩
theorem own_below2 {w w' : World} {base B : Nat} {e : TypeId} {sz : Nat} {v : Value} {n : Nat} {xs : List Value} (h : w.ownsRow base e sz v n xs) (hb : Below B w w') (hB : w.heap.size ≤ B) : w'.ownsRow base e sz v n xs :=
  ⟨h.1, h.2.imp id fun ⟨g, cap, cur, e1, e2, e3, e4⟩ => ⟨g, cap, cur, e1, e2, (hb.block g (by have := (Array.getElem?_eq_some_iff.1 e3).1; omega)).trans e3, e4⟩⟩
theorem run_makeSlice_full_any (w1 : World) (base n : Nat) (i0 : TypeInfo) (hi : Try.prog.info? 35 = some i0) (hz0 : i0.zero = some (.agg #[.int .i64 0, .int .i64 0])) (hz1 : i0.size = 2) (hz2 : i0.bytes = 16) (hn : n * 16 ≤ 140737488351232) (hb : base ≤ w1.heap.size) :
    ∃ w2, (Instr.makeSlice 31 (.int .i64 (n : Int)) (.int .i64 (n : Int))).run Try.prog w1 = .ok (.slice (some ⟨w1.heap.size, 0, none⟩) n n) w2 ∧ w2.ownsRow base 35 2 (.slice (some ⟨w1.heap.size, 0, none⟩) n n) n (pairs (List.replicate n (0, 0))) ∧ w1.grownBy w2 none := by
  obtain ⟨w2, h1, h2, h3⟩ := run_make_full w1 base 31 35 i0 (.agg #[.int .i64 0, .int .i64 0]) 2 Try.underlying31 hi hz0 hz1 .i64 .i64 n (by rw [hz2]; omega) (by unfold maxLen; omega) hb
  refine ⟨w2, h1, ?_, h3⟩
  rw [← made_pairs]
  simpa [Value.cells] using h2
set_option maxRecDepth 100000 in
set_option maxHeartbeats 2000000 in
theorem specStable (s : Int) (A : Option Addr) (l c B : Nat) (os : List Int) (A' : Option Addr) (n c' B' : Nat) (zs ts : List (Int × Int)) (hw : WeakP s os zs) (hst : StS s os zs ts) (w : World) (hO : Rd w B 1 A l (ints os)) (hB : B ≤ w.heap.size) (hI : Rd w B' 2 A' n (pairs zs)) (hB' : B' ≤ w.heap.size) (hl : l ≤ 9223372036854775807) (hn : n * 16 ≤ 140737488351232) :
    Calls Try.prog 19 #[.slice A' n c', .agg #[.int .i64 s, .slice A l c]] w fun e w' => ∃ A2 c2, e = .returned (.slice A2 n c2) ∧ w'.ownsRow w.heap.size 35 2 (.slice A2 n c2) n (pairs ts) ∧ Below w.heap.size w w' := by
  have hzl : zs.length = n := by have := hI.1; rw [pairs_length] at this; omega
  have HZ := hide hzl
  have HR : Hid (∀ i, i < n → ts[cntB s os zs i n]? = some (at0 zs i)) := hide fun i hi => by rw [← hzl]; exact rank_of hw hst (by omega)
  have HALL : Hid (∀ ys : List (Int × Int), ys.length = n → (∀ i, i < n → ys[cntB s os zs i n]? = ts[cntB s os zs i n]?) → ys = ts) := hide fun ys h1 h2 => ranks_all hw hst (by omega) (fun i hi => by rw [hzl] at hi ⊢; exact h2 i hi)
  have HTL : Hid (ts.length = n) := hide (by rw [hst.perm.length_eq]; exact hzl)
  clear hzl hw hst
  obtain ⟨i0, hi, hz0, hz1, hz2⟩ := info_parts infolawsSItems
  obtain ⟨w1, hw1⟩ : ∃ w1, w1 = w.alloc (.cells #[.int .i64 s, .slice A l c] 29) := ⟨_, rfl⟩
  have G1 : Below w.heap.size w w1 := by rw [hw1]; exact (Below.refl _ w).alloc (Nat.le_refl _) _
  have o01 : w1.cell? ⟨w.heap.size, 0, none⟩ = some (.int .i64 s) := by rw [hw1]; simp [go_sem]
  have o11 : w1.cell? ⟨w.heap.size, 1, none⟩ = some (.slice A l c) := by rw [hw1]; simp [go_sem]
  have lto1 : w.heap.size < w1.heap.size := by rw [hw1]; simp
  obtain ⟨w2, hmk, hown2, hg2⟩ := run_makeSlice_full_any w1 w.heap.size n i0 hi hz0 hz1 hz2 hn G1.size
  have G12 : Below w1.heap.size w1 w2 := (Below.refl _ _).grown hg2 (Nat.le_refl _) (fun k e => by cases e)
  have o02 : w2.cell? ⟨w.heap.size, 0, none⟩ = some (.int .i64 s) := (G12.cell (p := ⟨w.heap.size, 0, none⟩) lto1).trans o01
  have o12 : w2.cell? ⟨w.heap.size, 1, none⟩ = some (.slice A l c) := (G12.cell (p := ⟨w.heap.size, 1, none⟩) lto1).trans o11
  have lto2 : w.heap.size < w2.heap.size := Nat.lt_of_lt_of_le lto1 G12.size
  have HC : Hid (∀ (x1 x2 y1 y2 : Int) (W : World), Below w.heap.size w W → Calls Try.prog 16 #[.agg #[.int .i64 s, .slice A l c], .agg #[.int .i64 x1, .int .i64 x2], .agg #[.int .i64 y1, .int .i64 y2]] W fun e w' => e = .returned (.int .i64 (cmpO s os x1 y1)) ∧ Below W.heap.size W w') := hide fun x1 x2 y1 y2 W hW => by
    refine (compareS s A l c B os (x1, x2) (y1, y2) W (hO.below (hW.mono hB)) (Nat.le_trans hB hW.size) hl).mono ?_
    rintro e w' ⟨he, hw⟩
    exact ⟨he, by rw [hw]; exact (((Below.refl _ W).alloc (Nat.le_refl _) _).alloc (by simp) _).alloc (by simp; omega) _⟩
  have G2 : Below w.heap.size w w2 := G1.trans (G12.mono G1.size)
  obtain ⟨G, hG⟩ : ∃ G, G = w1.heap.size := ⟨_, rfl⟩
  rw [← hG] at hmk hown2
  rw [hw1] at hmk
  have hGw : w.heap.size < G := by omega
  have HOWN := hide hown2
  have HG := hide hG
  have HOU : Hid (∀ (W : World) (ys : List (Int × Int)), W.ownsRow w.heap.size 35 2 (.slice (some ⟨G, 0, none⟩) n n) n (pairs ys) → ys.length = n) := hide fun W ys h => by have := h.1; rw [pairs_length] at this; omega
  clear hown2 hg2 hG hw1
  go_enter Try.func19, Try.ntmps19
  go_wp2_with fail
  go_loopw [17] (fun vi wr => ∃ (i : Nat) (ys : List (Int × Int)), vi = .int .i64 i ∧ i ≤ n ∧ Hid (wr.ownsRow w.heap.size 35 2 (.slice (some ⟨G, 0, none⟩) n n) n (pairs ys)) ∧ Hid (∀ j, j < i → ys[cntB s os zs j n]? = ts[cntB s os zs j n]?) ∧ Below w1.heap.size w1 wr) (fun vi _ => n - (intOf vi).toNat)
  case atStart => exact ⟨0, _, rfl, Nat.zero_le _, HOWN, hide (fun j h => by omega), G12⟩
  case round =>
    clear HOWN
    obtain ⟨i, ys, rfl, hi2, HY, HYS, hA1⟩ := hrel
    by_cases hlt : i < n
    · have hltz : (i : Int) < (n : Int) := by omega
      obtain ⟨ba, offa, x1, x2, hAa, hba, hxa, hca1, hca2⟩ := (hI.below ((G1.trans (hA1.mono G1.size)).mono hB')).pair hlt
      subst hAa
      have HXA : Hid (at0 zs i = (x1, x2)) := hide (by simp [at0, hxa.out])
      obtain ⟨Ba, hBa⟩ : ∃ Ba, Ba = wr.heap.size := ⟨_, rfl⟩
      obtain ⟨wA, hwA⟩ : ∃ W, W = wr.alloc (.cells #[.int .i64 x1, .int .i64 x2] 35) := ⟨_, rfl⟩
      have GA1 : Below w1.heap.size w1 wA := by rw [hwA]; exact hA1.alloc hA1.size _
      have a0A : wA.cell? ⟨Ba, 0, none⟩ = some (.int .i64 x1) := by rw [hwA, hBa]; simp [go_sem]
      have a1A : wA.cell? ⟨Ba, 1, none⟩ = some (.int .i64 x2) := by rw [hwA, hBa]; simp [go_sem]
      have ltaA : Ba < wA.heap.size := by rw [hwA, hBa]; simp
      have HYA : Hid (wA.ownsRow w.heap.size 35 2 (.slice (some ⟨G, 0, none⟩) n n) n (pairs ys)) := hide (by rw [hwA]; exact HY.out.alloc _)
      have GAw : Below w.heap.size w wA := G1.trans (GA1.mono G1.size)
      have o0r : wr.cell? ⟨w.heap.size, 0, none⟩ = some (.int .i64 s) := (hA1.cell (p := ⟨w.heap.size, 0, none⟩) lto1).trans o01
      have o1r : wr.cell? ⟨w.heap.size, 1, none⟩ = some (.slice A l c) := (hA1.cell (p := ⟨w.heap.size, 1, none⟩) lto1).trans o11
      have ltor : w.heap.size < wr.heap.size := Nat.lt_of_lt_of_le lto1 hA1.size
      have o0A : wA.cell? ⟨w.heap.size, 0, none⟩ = some (.int .i64 s) := (GA1.cell (p := ⟨w.heap.size, 0, none⟩) lto1).trans o01
      have o1A : wA.cell? ⟨w.heap.size, 1, none⟩ = some (.slice A l c) := (GA1.cell (p := ⟨w.heap.size, 1, none⟩) lto1).trans o11
      have ltoA : w.heap.size < wA.heap.size := Nat.lt_of_lt_of_le lto1 GA1.size
      go_wp2_with fail
      rw [← hBa, ← hwA]
      clear hwA hBa
      go_loopw [8, 24] (fun v8 vk wr => ∃ k : Nat, vk = .int .i64 k ∧ k ≤ n ∧ v8 = .int .i64 (cntB s os zs i k : Nat) ∧ Below wA.heap.size wA wr) (fun _ vk _ => n - (intOf vk).toNat)
      case atStart => exact ⟨0, rfl, Nat.zero_le _, rfl, Below.refl _ _⟩
      case round =>
        obtain ⟨k, rfl, hk, rfl, hA2⟩ := hrel
        obtain ⟨ct, hct⟩ : ∃ ct : Nat, ct = cntB s os zs i k := ⟨_, rfl⟩
        have hctk : ct ≤ k := by rw [hct]; exact cntB_le _ _ _ _ _
        rw [← hct]
        have HCT := hide hct
        clear hct
        by_cases hlt2 : k < n
        · have hltz2 : (k : Int) < (n : Int) := by omega
          obtain ⟨bb, offb, y1, y2, hAb, hbb, hxb, hcb1, hcb2⟩ := (hI.below ((GAw.trans (hA2.mono GAw.size)).mono hB')).pair hlt2
          injection hAb with hAb
          injection hAb with hAb1 hAb2
          subst hAb1 hAb2
          have HXB : Hid (at0 zs k = (y1, y2)) := hide (by simp [at0, hxb.out])
          obtain ⟨Bb, hBb⟩ : ∃ Bb, Bb = wr.heap.size := ⟨_, rfl⟩
          obtain ⟨wB, hwB⟩ : ∃ W, W = wr.alloc (.cells #[.int .i64 y1, .int .i64 y2] 35) := ⟨_, rfl⟩
          have GBA : Below wA.heap.size wA wB := by rw [hwB]; exact hA2.alloc hA2.size _
          have GBw : Below w.heap.size w wB := GAw.trans (GBA.mono GAw.size)
          have o0r2 : wr.cell? ⟨w.heap.size, 0, none⟩ = some (.int .i64 s) := (hA2.cell (p := ⟨w.heap.size, 0, none⟩) ltoA).trans o0A
          have o1r2 : wr.cell? ⟨w.heap.size, 1, none⟩ = some (.slice A l c) := (hA2.cell (p := ⟨w.heap.size, 1, none⟩) ltoA).trans o1A
          have ltor2 : w.heap.size < wr.heap.size := Nat.lt_of_lt_of_le ltoA hA2.size
          have a0r2 : wr.cell? ⟨Ba, 0, none⟩ = some (.int .i64 x1) := (hA2.cell (p := ⟨Ba, 0, none⟩) ltaA).trans a0A
          have a1r2 : wr.cell? ⟨Ba, 1, none⟩ = some (.int .i64 x2) := (hA2.cell (p := ⟨Ba, 1, none⟩) ltaA).trans a1A
          have ltar2 : Ba < wr.heap.size := Nat.lt_of_lt_of_le ltaA hA2.size
          have HCC := hide (HC.out y1 y2 x1 x2 wB GBw)
          obtain ⟨q, hq⟩ : ∃ q, q = cmpO s os y1 x1 := ⟨_, rfl⟩
          rw [← hq] at HCC
          have HBF : Hid (befB s os zs i k = (decide (q < 0) || (decide (q = 0) && decide (k < i)))) := hide (by rw [befB, HXA.out, HXB.out, hq])
          clear hq
          go_wp2_with fail
          rw [← hwB]
          clear hwB hBb
          refine HCC.out.mono ?_
          rintro _ wC ⟨rfl, gC⟩
          have GCA : Below wA.heap.size wA wC := GBA.trans (gC.mono GBA.size)
          by_cases q1 : q < 0
          · have HN : Hid (cntB s os zs i (k + 1) = ct + 1) := hide (by rw [cntB_yes (by rw [HBF.out]; simp [q1]), HCT.out])
            go_wp2_with fail
            go_roundw
            case rel => exact ⟨k + 1, by go_num, by omega, by rw [HN.out]; go_num, GCA⟩
            case measure => simp [intOf]; omega
          · by_cases q2 : q = 0
            · subst q2
              by_cases q3 : k < i
              · have q3z : (k : Int) < (i : Int) := by omega
                have HN : Hid (cntB s os zs i (k + 1) = ct + 1) := hide (by rw [cntB_yes (by rw [HBF.out]; simp [q3]), HCT.out])
                go_wp2_with fail
                go_roundw
                case rel => exact ⟨k + 1, by go_num, by omega, by rw [HN.out]; go_num, GCA⟩
                case measure => simp [intOf]; omega
              · have q3z : ¬ (k : Int) < (i : Int) := by omega
                have HN : Hid (cntB s os zs i (k + 1) = ct) := hide (by rw [cntB_no (by rw [HBF.out]; simp [q3]), HCT.out])
                go_wp2_with fail
                go_roundw
                case rel => exact ⟨k + 1, by go_num, by omega, by rw [HN.out], GCA⟩
                case measure => simp [intOf]; omega
            · have q2b : (q == 0) = false := by simpa using q2
              have HN : Hid (cntB s os zs i (k + 1) = ct) := hide (by rw [cntB_no (by rw [HBF.out]; simp [q1, q2]), HCT.out])
              clear q2
              go_wp2_with fail
              go_roundw
              case rel => exact ⟨k + 1, by go_num, by omega, by rw [HN.out], GCA⟩
              case measure => simp [intOf]; omega
        · have hltz2 : ¬ (k : Int) < (n : Int) := by omega
          have hkn : k = n := by omega
          have hts : ts[ct]? = some (x1, x2) := by rw [HCT.out, hkn, HR.out i hlt, HXA.out]
          have hctn : ct < n := by have := (List.getElem?_eq_some_iff.1 hts).1; rw [HTL.out] at this; exact this
          have HTS := hide hts
          have HCN : Hid (ct = cntB s os zs i n) := hide (by rw [HCT.out, hkn])
          clear hts hkn
          have o0r2 : wr.cell? ⟨w.heap.size, 0, none⟩ = some (.int .i64 s) := (hA2.cell (p := ⟨w.heap.size, 0, none⟩) ltoA).trans o0A
          have o1r2 : wr.cell? ⟨w.heap.size, 1, none⟩ = some (.slice A l c) := (hA2.cell (p := ⟨w.heap.size, 1, none⟩) ltoA).trans o1A
          have ltor2 : w.heap.size < wr.heap.size := Nat.lt_of_lt_of_le ltoA hA2.size
          have a0r2 : wr.cell? ⟨Ba, 0, none⟩ = some (.int .i64 x1) := (hA2.cell (p := ⟨Ba, 0, none⟩) ltaA).trans a0A
          have a1r2 : wr.cell? ⟨Ba, 1, none⟩ = some (.int .i64 x2) := (hA2.cell (p := ⟨Ba, 1, none⟩) ltaA).trans a1A
          have ltar2 : Ba < wr.heap.size := Nat.lt_of_lt_of_le ltaA hA2.size
          have hown := own_below2 HYA.out hA2 (Nat.le_refl _)
          obtain ⟨b3, off3, u3, v3, hbe3, hb3, hx3, hd3, hd4⟩ := (Rd.of_own hown).pair (k := ct) hctn
          injection hbe3 with hbe3
          injection hbe3 with hbe31 hbe32
          subst hbe31 hbe32
          rw [Nat.zero_add] at hd3 hd4
          have fr1 := hown.frozenAt (ct * 2)
          have fr2 := hown.frozenAt (ct * 2 + 1)
          obtain ⟨e1, gr1⟩ := hown.stored (ct * 2) (.int .i64 x1)
          obtain ⟨e2, gr2⟩ := e1.stored (ct * 2 + 1) (.int .i64 x2)
          rw [pairs_set] at e2
          have HO2 := hide e2
          have hyl : ys.length = n := HOU.out _ _ hown
          have HYN : Hid (∀ j, j < i + 1 → (ys.set ct (x1, x2))[cntB s os zs j n]? = ts[cntB s os zs j n]?) := hide fun j hj => by
            by_cases e : j = i
            · subst e
              rw [← HCN.out, List.getElem?_set_self (by rw [hyl]; exact hctn), HTS.out]
            · exact set_rank (by rw [hyl]; exact hctn) HTS.out (HYS.out j (by omega))
          have HB2 : Hid (Below w1.heap.size w1 ((wr.setCell ⟨G, ct * 2, none⟩ (.int .i64 x1)).setCell ⟨G, ct * 2 + 1, none⟩ (.int .i64 x2))) := hide ((GA1.trans (hA2.mono GA1.size)).grown (grown_tr gr1 gr2) (by have := GA1.size; have := hA2.size; omega) (fun j e => by cases e; have := HG.out; omega))
          clear hyl e1 e2 gr1 gr2 hown hb3 hx3
          go_wp2_with fail
          go_roundw
          case rel => exact ⟨i + 1, _, by go_num, by omega, HO2, HYN, HB2.out⟩
          case measure => simp [intOf]; omega
    · have hltz : ¬ (i : Int) < (n : Int) := by omega
      obtain rfl : i = n := by omega
      have HE : Hid (ys = ts) := hide (HALL.out ys (HOU.out _ _ HY.out) HYS.out)
      go_wp2_with fail
      go_ret
      exact ⟨_, _, rfl, by rw [← HE.out]; exact HY.out, G1.trans (hA1.mono G1.size)⟩
end Go.Proofs.Ytiocgmeonfanmaa
