/-
  FnChunkOfChunk: the law returns true at every input of at most 1048576 values, and changes nothing that was there.
-/
import Derived.ProofKit
import Derived.OpenShut
import Derived.JoinedCond
import Derived.Deep.CondSized
import Derived.SizedLaws
import Derived.WalkKit
import Derived.WalkLawsBesides
import Derived.Outline
import Derived.Deep.DeepMust
import Derived.Test.YtiihcdoemgmjbaaOpen
import Derived.Test.YtiihcdoemgmjbaaChkI
import Derived.Test.YtiihcdoemgmjbaaChkP
import Derived.Test.YtiihcdoemgmjbaaEqs
import Derived.Test.YtiihcdoemgmjbaaCon
namespace Go.Proofs.Ytiihcdoemgmjbaa.fnChunkOfChunk
open Go.ChangeShapes Go.WideShapes Go.ChangeAt Go.RowKit
set_option linter.unusedVariables false
set_option linter.unusedSimpArgs false

theorem chs_add (a : Nat) (zs : List Int) (m n : Nat) : chs a zs (m + n) = chs a zs m ++ chs a (zs.drop (m * a)) n := by
  unfold chs
  rw [List.range_add, List.map_append, List.map_map]
  congr 1
  apply List.map_congr_left
  intro j _
  simp only [Function.comp, chAt_take, List.drop_drop, Nat.add_mul]
theorem chs_part {a n q : Nat} {zs : List Int} (h : n * a ≤ q) : chs a (zs.take q) n = chs a zs n := by
  unfold chs
  apply List.map_congr_left
  intro j hj
  have hj' : j + 1 ≤ n := List.mem_range.1 hj
  have h1 : (j + 1) * a ≤ n * a := Nat.mul_le_mul_right a hj'
  rw [Nat.succ_mul] at h1
  rw [chAt_take, chAt_take, List.drop_take, List.take_take, Nat.min_eq_left (by omega)]
theorem nCh_sub {a len m : Nat} (ha : 1 ≤ a) (h : m * a ≤ len) : m + nCh a (len - m * a) = nCh a len := by
  symm
  have h1 : len - m * a ≤ nCh a (len - m * a) * a := nCh_mul ha
  refine nCh_eq ha (by rw [Nat.add_mul]; omega) ?_
  rcases Nat.eq_zero_or_pos (nCh a (len - m * a)) with h2 | h2
  · rw [h2] at h1 ⊢
    rcases Nat.eq_zero_or_pos m with h3 | h3
    · left; omega
    · right
      obtain ⟨k, rfl⟩ : ∃ k, m = k + 1 := ⟨m - 1, by omega⟩
      rw [Nat.succ_mul] at h
      simp only [Nat.add_zero, Nat.add_sub_cancel]; omega
  · right
    obtain ⟨k, hk⟩ : ∃ k, nCh a (len - m * a) = k + 1 := ⟨_, (Nat.succ_pred_eq_of_pos h2).symm⟩
    have h3 : k * a < len - m * a := nCh_lt ha (by omega)
    rw [hk, show m + (k + 1) - 1 = m + k by omega, Nat.add_mul]
    omega
/-- the slices of the next great slice -/
theorem chs_next {a b k : Nat} {zs : List Int} (ha : 1 ≤ a) (hb : 1 ≤ b) (hk : k * (a * b) < zs.length) :
    chs a zs (k * b) ++ chs a (chAt (a * b) zs k) (nCh a (chAt (a * b) zs k).length) = chs a zs (if (k + 1) * (a * b) < zs.length then (k + 1) * b else nCh a zs.length) := by
  have e : k * (a * b) = k * b * a := by rw [Nat.mul_comm a b, Nat.mul_assoc]
  rw [chAt_take]
  have hl : ((zs.drop (k * (a * b))).take (a * b)).length = if zs.length - k * (a * b) < a * b then zs.length - k * (a * b) else a * b := by simp; split <;> omega
  by_cases hf : zs.length - k * (a * b) < a * b
  · rw [if_neg (by rw [Nat.succ_mul]; omega), List.take_of_length_le (by simp; omega), List.length_drop, e, ← chs_add, nCh_sub ha (by rw [← e]; omega)]
  · rw [hl, if_neg hf]
    have hn : nCh a (a * b) = b := nCh_eq ha (by rw [Nat.mul_comm]; exact Nat.le_refl _) (.inr (by
      obtain ⟨d, rfl⟩ : ∃ d, b = d + 1 := ⟨b - 1, by omega⟩
      rw [Nat.add_sub_cancel, Nat.mul_comm d a, Nat.mul_succ]; omega))
    rw [hn, chs_part (by rw [Nat.mul_comm]; exact Nat.le_refl _), e, ← chs_add, show k * b + b = (k + 1) * b from (Nat.succ_mul k b).symm]
    split
    · rfl
    · rename_i h2
      have h5 : (k + 1) * (a * b) = k * (a * b) + a * b := Nat.succ_mul k (a * b)
      have h6 : zs.length = (k + 1) * (a * b) := by omega
      have h3 : zs.length = (k + 1) * b * a := by rw [h6, Nat.mul_comm a b, Nat.mul_assoc]
      congr 1
      symm
      obtain ⟨d, hd⟩ : ∃ d, (k + 1) * b = d + 1 := ⟨(k + 1) * b - 1, by have : 1 * 1 ≤ (k + 1) * b := Nat.mul_le_mul (by omega) hb; omega⟩
      rw [h3, hd]
      refine nCh_eq ha (Nat.le_refl _) (.inr ?_)
      rw [Nat.add_sub_cancel, Nat.succ_mul]; omega
theorem own_cap {w : World} {base : Nat} {e : TypeId} {sz n c : Nat} {A : Option Addr} {xs : List Value} (h : w.ownsRow base e sz (.slice A n c) n xs) : n ≤ c := by
  rcases h.2 with ⟨h1, h2⟩ | ⟨g, cap', cur, hv, _, _, h, _⟩
  · omega
  · injection hv with _ _ h4; omega
theorem RowsOwn.app {w : World} {base : Nat} {rs rs' : List (Option Addr × Nat × Nat)} {zz zz' : List (List Int)} (h : RowsOwn w base rs zz) (h' : RowsOwn w base rs' zz') : RowsOwn w base (rs ++ rs') (zz ++ zz') := by
  refine ⟨by simp [h.1, h'.1], fun i r z h1 h2 => ?_⟩
  by_cases hi : i < rs.length
  · rw [List.getElem?_append_left hi] at h1
    rw [List.getElem?_append_left (by rw [← h.1]; exact hi)] at h2
    exact h.2 i r z h1 h2
  · rw [List.getElem?_append_right (by omega)] at h1
    rw [List.getElem?_append_right (by rw [← h.1]; omega), ← h.1] at h2
    exact h'.2 _ r z h1 h2
set_option maxRecDepth 100000 in
set_option maxHeartbeats 4000000 in
theorem walk (a0 : Option Addr) (l0 c0 : Nat) (z0 : List Int) (a1 : Int) (a2 : Int) (w : World) (k0 : l0 ≤ c0) (m0 : c0 ≤ maxLen) (r0 : Rd w w.heap.size 1 a0 l0 (ints z0)) (f0 : ∀ x ∈ z0, (Lit.int .i64 x).wf = true) (f1 : (Lit.int .i64 a1).wf = true) (f2 : (Lit.int .i64 a2).wf = true) (bu : l0 ≤ 1048576) :
    Calls Try.prog 8 #[.slice a0 l0 c0, .int .i64 a1, .int .i64 a2] w fun e w' => e = .returned (.bool true) ∧ Below w.heap.size w w' := by
  have hlen : l0 ≤ 1048576 := by omega
  have hb8 : l0 * 8 ≤ 140737488351232 := by omega
  obtain ⟨hlo, hhi⟩ := bounds_i64 f1
  obtain ⟨hlo2, hhi2⟩ := bounds_i64 f2
  have hz : z0.length = l0 := by have := r0.1; simpa using this
  clear f1 f2 bu
  by_cases t1 : a1 < 1
  · have d1 : decide (a1 < 1) = true := by simpa using t1
    clear hz
    go_enter Try.func8, Try.ntmps8
    go_wp2_with fail
    go_ret
    exact ⟨by simp, Below.refl _ _⟩
  have d1 : decide (a1 < 1) = false := by simpa using t1
  by_cases t2 : a2 < 1
  · have d2 : decide (a2 < 1) = true := by simpa using t2
    clear hz
    go_enter Try.func8, Try.ntmps8
    go_wp2_with fail
    go_ret
    exact ⟨by simp, Below.refl _ _⟩
  have d2 : decide (a2 < 1) = false := by simpa using t2
  by_cases t3 : 1000 < a1
  · have d3 : decide (1000 < a1) = true := by simpa using t3
    clear hz
    go_enter Try.func8, Try.ntmps8
    go_wp2_with fail
    go_ret
    exact ⟨by simp, Below.refl _ _⟩
  have d3 : decide (1000 < a1) = false := by simpa using t3
  by_cases t4 : 1000 < a2
  · have d4 : decide (1000 < a2) = true := by simpa using t4
    clear hz
    go_enter Try.func8, Try.ntmps8
    go_wp2_with fail
    go_ret
    exact ⟨by simp, Below.refl _ _⟩
  have d4 : decide (1000 < a2) = false := by simpa using t4
  obtain ⟨a, rfl⟩ : ∃ a : Nat, a1 = (a : Int) := ⟨a1.toNat, by omega⟩
  obtain ⟨b, rfl⟩ : ∃ b : Nat, a2 = (b : Int) := ⟨a2.toNat, by omega⟩
  have ha : 1 ≤ a := by omega
  have hb : 1 ≤ b := by omega
  obtain ⟨p, hp⟩ : ∃ p, p = a * b := ⟨_, rfl⟩
  have hp1 : 1 ≤ p := by have := Nat.mul_le_mul ha hb; omega
  have hp2 : p ≤ 1000000 := by have := Nat.mul_le_mul (show a ≤ 1000 by omega) (show b ≤ 1000 by omega); omega
  have hpi : (a : Int) * (b : Int) = (p : Int) := by rw [hp]; simp
  have hwp : IntKind.i64.wrap (p : Int) = (p : Int) := IntWalk.i64_in _ (by omega)
  have hbig := implChunkO a0 l0 c0 z0 p (-1) (by omega) k0 hp1 (by omega) w r0
  have hwant := fun (w1 : World) h => implChunk a0 l0 c0 z0 a (-1) (by omega) k0 ha (by omega) w1 h
  rw [firstN_neg] at hbig
  simp only [firstN_neg] at hwant
  have hKl : nCh p l0 ≤ l0 := nCh_le hp1
  have hWl : nCh a l0 ≤ l0 := nCh_le ha
  have hKj : ∀ j, j < nCh p l0 → j * p < l0 := fun j h => nCh_lt hp1 h
  have hend : ∀ j, j * p < l0 → j < nCh p l0 := fun j h => lt_nCh hp1 h
  have hnx : ∀ k, k * p < l0 → chs a z0 (k * b) ++ chs a (chAt p z0 k) (nCh a (chAt p z0 k).length) = chs a z0 (if (k + 1) * p < l0 then (k + 1) * b else nCh a l0) := fun k h => by
    have := chs_next (k := k) (zs := z0) ha hb (by rw [hz, ← hp]; exact h)
    rw [← hp, hz] at this
    exact this
  have hfl : (chs a z0 (nCh a l0)).flatten = z0 := by rw [← hz]; exact chs_all ha
  have hn0 : l0 = 0 → nCh a l0 = 0 := fun h => by rw [h]; exact nCh_eq ha (by omega) (.inl rfl)
  have hml : ∀ z ∈ chs a z0 (nCh a l0), z.length ≤ 9223372036854775807 := fun z h => by have := chs_mem_le z h; omega
  obtain ⟨K, hK⟩ : ∃ K, nCh p l0 = K := ⟨_, rfl⟩
  obtain ⟨M, hM⟩ : ∃ M, nCh a l0 = M := ⟨_, rfl⟩
  rw [hK] at hbig hKl hKj hend
  rw [hM] at hwant hWl hnx hfl hn0 hml
  have HB := hide hbig
  have HW := hide hwant
  have HKJ := hide hKj
  have HEN := hide hend
  have HNX := hide hnx
  have HFL := hide hfl
  have HML := hide hml
  have HN0 := hide hn0
  have HZ := hide hz
  have hbM : ∀ k, k * p < l0 → k * b ≤ M := fun k h => by
    have h1 : k * b * a < l0 := by rw [Nat.mul_assoc, Nat.mul_comm b a, ← hp]; exact h
    have h2 := lt_nCh ha h1
    rw [hM] at h2
    omega
  have HBM := hide hbM
  obtain ⟨i0, hi, hz0, hz1, hz2⟩ := info_parts infoSl
  clear hbig hwant hKj hend hnx hfl hml hn0 hK hM hp hz hbM t1 t2 t3 t4
  go_enter Try.func8, Try.ntmps8
  go_wp2_with fail
  refine HB.out.mono ?_
  rintro e w1 ⟨A1, e1, rs1, A2, e2, rfl, hr1, hqo, _, g1⟩
  have hq1 := hqo.rd
  have hs1 := g1.size
  clear HB
  obtain ⟨w0, hw0⟩ : ∃ w0 : World, w0 = w1 := ⟨_, rfl⟩
  rw [← hw0] at hr1 hq1 hqo g1 hs1
  go_wp2
  rw [← hw0]
  clear hw0
  go_loopw [10, 46] (fun v i wr => ∃ (k cnt : Nat) (rs : List (Option Addr × Nat × Nat)), k ≤ K ∧ i = .int .i64 k ∧ cnt ≤ M ∧ Hid (k < K → cnt = k * b) ∧ Hid (k = K → cnt = M) ∧ wr.ownsRow w0.heap.size 22 1 v cnt (rows rs) ∧ RowsOwn wr w0.heap.size rs (chs a z0 cnt) ∧ Below w0.heap.size w0 wr) (fun _ i _ => K - (intOf i).toNat)
  case atStart =>
    refine ⟨0, 0, [], Nat.zero_le _, rfl, Nat.zero_le _, fun _ => by simp, fun h => ?_, World.ownsRow_nil _ _ _ _, ⟨by simp [chs], by simp⟩, Below.refl _ _⟩
    rcases Nat.eq_zero_or_pos l0 with h0 | h0
    · exact (HN0.out h0).symm
    · have := HEN.out 0 (by omega); omega
  case round =>
    obtain ⟨k, cnt, rs, hk, rfl, hcM, hck, hcK, hown, hro, hB⟩ := hrel
    have hsz := hB.size
    obtain ⟨Av, cv, rfl⟩ := own_slice hown
    by_cases hlt : k < K
    · have hkp := HKJ.out k hlt
      have hcb := hck.out hlt
      obtain ⟨bb, off, X, m, d, z, rfl, hbb, hrk, hzk, hcx, hrx⟩ := (hq1.below hB).at_ (hr1.below hB) hlt
      have hzc : z = chAt p z0 k := (chs_get hzk.out).2
      have hzm : z.length = m := by have := hrx.1; simpa using this
      have hcd : m ≤ d := own_cap (hqo.2 k (X, m, d) z hrk.out hzk.out)
      have hml : m ≤ l0 := by rw [← hzm, hzc, chAt]; simp; have := HZ.out; omega
      have hsm := implChunkO X m d z a (-1) (by omega) hcd ha (by omega) wr (hrx.more hsz)
      rw [firstN_neg] at hsm
      obtain ⟨Q, hQ⟩ : ∃ Q, nCh a m = Q := ⟨_, rfl⟩
      rw [hQ] at hsm
      have hQm : Q ≤ m := by rw [← hQ]; exact nCh_le ha
      have hnext := HNX.out k hkp
      rw [← hzc, hzm, hQ, ← hcb] at hnext
      obtain ⟨cnt2, hcnt2⟩ : ∃ cnt2, (if (k + 1) * p < l0 then (k + 1) * b else M) = cnt2 := ⟨_, rfl⟩
      rw [hcnt2] at hnext
      have hc2 : cnt + Q = cnt2 := by
        have := congrArg List.length hnext
        simpa [chs_length] using this
      have hc2M : cnt2 ≤ M := by
        rw [← hcnt2]; split
        · rename_i h; exact HBM.out (k + 1) h
        · exact Nat.le_refl _
      have HC1 : Hid (k + 1 < K → cnt2 = (k + 1) * b) := fun h => by rw [← hcnt2, if_pos (HKJ.out (k + 1) h)]
      have HC2 : Hid (k + 1 = K → cnt2 = M) := fun h => by
        rw [← hcnt2, if_neg (fun h2 => by have := HEN.out (k + 1) h2; omega)]
      have HS := hide hsm
      have HNE := hide hnext
      have hki : (k : Int) < (K : Int) := by omega
      clear hsm hnext hcnt2 hQ hzc hrk hzk hcb
      go_wp2_with fail
      refine HS.out.mono ?_
      rintro e w2 ⟨A3, e3, rs3, A4, e4, rfl, hr3, hro3, _, g2⟩
      have hs2 := g2.size
      have hown2 := ownsRow_below' hown g2 (Nat.le_refl _)
      have hro2 := hro.belowC g2 (Nat.le_refl _)
      have hB2 : Below w0.heap.size w0 w2 := hB.trans (g2.mono hsz)
      go_wp2_with (at_builtin; go_must (refine wpList_append_rd _ rfl _ _ 23 rfl w0.heap.size 22 i0 (.slice none 0 0) 1 24 Try.underlying23 hi hz0 hz1 hz2 rfl (by decide) _ cnt (rows rs) rfl hown2 w2.heap.size A3 Q e3 (rows rs3) rfl hr3 (rows_one _) (by unfold maxLen; omega) (by omega) (by omega) ?_); intro v4 w4 own4 hg4 hn4; clear hn4; obtain ⟨A5, c5, rfl⟩ := own_slice own4)
      have hro4 : RowsOwn w4 w0.heap.size (rs ++ rs3) (chs a z0 cnt2) := by
        rw [← HNE.out]
        exact RowsOwn.map (RowsOwn.app hro2 (hro3.base hsz)) fun v n xs h => h.kept hg4 (own_apart h hown2 (by decide))
      have hB4 : Below w0.heap.size w0 w4 := below_grown_own hB2 (by omega) (Nat.le_refl _) hown2 hg4
      rw [hc2, show rows rs ++ rows rs3 = rows (rs ++ rs3) by simp [rows]] at own4
      go_roundw
      case rel => exact ⟨k + 1, cnt2, rs ++ rs3, by omega, by go_num, hc2M, HC1, HC2, by first | exact own4 | (rw [hc2]; exact own4), hro4, hB4⟩
      case measure => simp [intOf]; omega
    · obtain rfl : k = K := by omega
      obtain rfl : cnt = M := hcK.out rfl
      have hg0 : Below w.heap.size w wr := g1.trans (hB.mono hs1)
      have hsw := hg0.size
      have x1 := Rd.of_own hown
      have y1 := hro.rd
      clear hown hro
      go_wp2_with fail
      refine (HW.out wr ((r0.below hg0).more hsw)).mono ?_
      rintro e w2 ⟨A3, e3, rs3, A4, e4, rfl, hr3, hq3, _, g2⟩
      have hs2 := g2.size
      go_wp2_with fail
      refine (implConcatN A3 cnt e3 rs3 _ z0 l0 HFL.out HZ.out (by omega) hb8 w2 hr3 hq3).mono ?_
      rintro e w3 ⟨A5, e5, f5, rfl, own5, g3⟩
      have hs3 := g3.size
      have x5 := Rd.of_own own5
      clear own5
      go_wp2_with fail
      refine (equalsT _ _ _ _ _ _ _ rs rs3 _ w3 ((x1.below g2).below (g3.mono hs2)) ((y1.below g2).below (g3.mono hs2)) (hr3.below g3) (hq3.below g3) (by omega) HML.out).mono ?_
      rintro e w4 ⟨rfl, hd4⟩
      have hg3 : Below w.heap.size w w3 := (hg0.trans (g2.mono hsw)).trans (g3.mono (by omega))
      go_wp2_with fail
      refine (equalIntT _ _ _ _ _ _ _ _ _ w4 (x5.ofDrew hd4) ((r0.below hg3).ofDrew hd4) (by omega)).mono ?_
      rintro e w5 ⟨rfl, hd5⟩
      go_wp2_with fail
      go_ret
      exact ⟨by simp, (hg3.trans (hd4.below _)).trans (hd5.below _)⟩

set_option maxRecDepth 100000 in
theorem lifted (os : Os) (started : os.Started) (H : Type) (enc : TypeId × Value → H) (F : Stop.Interp) :
    ReturnsInHanded {} Try.checked os 8 .any ((Rows.OpenSpec.upto Rows.fnChunkOfChunkSpec).pre6 enc Try.prog Try.f8 Rows.fnChunkOfChunkUptoRow.domain false) (((Rows.OpenSpec.upto Rows.fnChunkOfChunkSpec).at F).post enc Try.prog Try.f8 false true false false) := by
  refine returnsInHanded_of_cond (C := Try.checked) (s := (Rows.OpenSpec.upto Rows.fnChunkOfChunkSpec)) (k := Rows.uptoSmall) rfl own started (by kernel_rfl) Try.func8
    (OpenSpec.witness (enc := enc) (C := Try.checked) (s := (Rows.OpenSpec.upto Rows.fnChunkOfChunkSpec)) (k := Rows.uptoSmall) rfl false ⟨#[], #[.slice none 0 0, .int .i64 0, .int .i64 0], []⟩ 8 (by kernel_rfl) (by kernel_rfl) (by kernel_rfl)
      (x := ([.nil, .lit (.int .i64 0), .lit (.int .i64 0)], [], [])) (by kernel_rfl) rfl (by kernel_rfl)) ?_
  intro W base args ds gs before hval0 hW _ hk0 _
  have hk := bulk_bound hk0
  have hval : ∀ (j : Nat) t v, Try.f8.params[j]? = some t → args[j]? = some v → Value.okWide Try.prog W .any base t v := hval0
  have hW' := hW
  obtain ⟨p, q, hA0, hV, rfl, hfz, hnd⟩ := hW
  have hA : DataW.TrodAll enc Try.prog W 0 (fun _ => true) true Try.f8.params.toList args.toList ds p := hA0
  rw [Try.params8] at hA hval
  obtain ⟨v0, vs0, d0, ds0, p0, q0, hargs, rfl, rfl, h0, rr0⟩ := trodAll_cons hA
  obtain ⟨v1, vs1, d1, ds1, p1, q1, rfl, rfl, rfl, h1, rr1⟩ := trodAll_cons rr0
  obtain ⟨v2, vs2, d2, ds2, p2, q2, rfl, rfl, rfl, h2, rr2⟩ := trodAll_cons rr1
  obtain ⟨rfl, rfl, rfl⟩ := trodAll_nil rr2
  obtain rfl : args = #[v0, v1, v2] := by cases args; simp_all
  obtain ⟨rfl, rfl⟩ := trodVars_none hV
  have t0 := h0
  have lt0 : ∀ x ∈ p0, x.block < W.heap.size := by obtain ⟨m, hm⟩ := t0; exact DataW.trod_lt m _ _ _ hm
  obtain ⟨a0, l0, c0, z0, rfl, k0, m0, r0, f0, u0, s0⟩ := openInts (hval 0 22 v0 rfl rfl) h0
  have t1 := h1
  have lt1 : ∀ x ∈ p1, x.block < W.heap.size := by obtain ⟨m, hm⟩ := t1; exact DataW.trod_lt m _ _ _ hm
  obtain ⟨a1, rfl, hd1, hp1, f1⟩ := open_int Try.underlying3 (hval 1 3 v1 rfl rfl) h1
  have u1 := bulk_one d1
  have t2 := h2
  have lt2 : ∀ x ∈ p2, x.block < W.heap.size := by obtain ⟨m, hm⟩ := t2; exact DataW.trod_lt m _ _ _ hm
  obtain ⟨a2, rfl, hd2, hp2, f2⟩ := open_int Try.underlying3 (hval 2 3 v2 rfl rfl) h2
  have u2 := bulk_one d2
  simp only [List.cons_append, List.nil_append, List.append_nil, Rows.uptoBulkAll] at hk
  have bu : l0 ≤ 1048576 := by omega
  refine (walk a0 l0 c0 z0 a1 a2 W k0 m0 r0 f0 f1 f2 bu).mono fun e W' ⟨he, bel⟩ => ?_
  subst he
  exact ⟨_, rfl, _, _, _, [], _, [], hW', trodAll_mk1 (shut_bool Try.underlying4 _), (trodAll_cons_mk (Below.trod laidOut (by kernel_rfl) (of_decide_eq_true (by kernel_rfl)) t0 bel lt0) (trodAll_cons_mk (Below.trod laidOut (by kernel_rfl) (of_decide_eq_true (by kernel_rfl)) t1 bel lt1) (trodAll_cons_mk (Below.trod laidOut (by kernel_rfl) (of_decide_eq_true (by kernel_rfl)) t2 bel lt2) trodAll_mk0))), rfl, bel.frame _, fun h => by cases h⟩

theorem over : Rows.fnChunkOfChunkUptoRow.holds Try.pinned (Rows.OpenSpec.upto Rows.fnChunkOfChunkSpec) :=
  OpenClaim.holds_of_cond 8 Try.f8 rfl rfl rfl rfl rfl rfl rfl ⟨rfl, rfl, rfl, rfl, rfl⟩ rfl rfl rfl rfl rfl (by kernel_rfl) Try.func8 (by kernel_rfl)
    (of_decide_eq_true (by kernel_rfl)) (by unfold Func.isWrapper; first | (rw [if_pos (by decide +kernel)]; kernel_rfl) | (rw [if_neg (by decide +kernel)]; exact ⟨rfl, rfl⟩))
    (fun os started H enc _ F => lifted os started H enc F)

/-- the given statement -/
theorem proved : Rows.FnChunkOfChunkUptoSaid := over
#print axioms proved
end Go.Proofs.Ytiihcdoemgmjbaa.fnChunkOfChunk
