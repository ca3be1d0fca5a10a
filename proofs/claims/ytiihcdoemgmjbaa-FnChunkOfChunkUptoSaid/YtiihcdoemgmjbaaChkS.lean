/-
  spec.Chunk.
-/
import Derived.Test.YtiihcdoemgmjbaaChk
import Derived.Test.YtiihcdoemgmjbaaSpec
import Derived.Test.YtiihcdoemgmjbaaRowsL
namespace Go.Proofs.Ytiihcdoemgmjbaa
open Go.RowKit
set_option linter.unusedVariables false
set_option linter.unusedSimpArgs false

/-- slice j of the list; the first K of them -/
def chAt (c : Nat) (zs : List Int) (j : Nat) : List Int := (zs.drop (j * c)).take (chL c zs.length j)
def chs (c : Nat) (zs : List Int) (K : Nat) : List (List Int) := (List.range K).map (chAt c zs)
theorem chs_succ (c : Nat) (zs : List Int) (K : Nat) : chs c zs (K + 1) = chs c zs K ++ [chAt c zs K] := by simp [chs, List.range_succ]
theorem chs_length (c : Nat) (zs : List Int) (K : Nat) : (chs c zs K).length = K := by simp [chs]
theorem own_apart {w : World} {b1 b2 : Nat} {e1 e2 : TypeId} {s1 s2 : Nat} {v1 v2 : Value} {n1 n2 : Nat} {x1 x2 : List Value} (h1 : w.ownsRow b1 e1 s1 v1 n1 x1) (h2 : w.ownsRow b2 e2 s2 v2 n2 x2) (hne : e1 ≠ e2) : v1.ownBlock = none ∨ v1.ownBlock ≠ v2.ownBlock := by
  rcases h1.2 with ⟨rfl, _⟩ | ⟨g, cap, cur, rfl, _, hg, _⟩
  · exact .inl rfl
  · rcases h2.2 with ⟨rfl, _⟩ | ⟨g', cap', cur', rfl, _, hg', _⟩
    · right; simp [Value.ownBlock]
    · right
      intro e
      obtain rfl : g = g' := by simpa [Value.ownBlock] using e
      rw [hg] at hg'
      simp at hg'
      exact hne hg'.2
theorem RowsOwn.snoc' {w : World} {base : Nat} {rs : List (Option Addr × Nat × Nat)} {zz : List (List Int)} {z : List Int} {A : Option Addr} {m c : Nat} (h : RowsOwn w base rs zz) (hr : w.ownsRow base 3 1 (.slice A m c) m (ints z)) : RowsOwn w base (rs ++ [(A, m, c)]) (zz ++ [z]) := by
  refine ⟨by simp [h.1], fun i r z' h1 h2 => ?_⟩
  by_cases hi : i < rs.length
  · rw [List.getElem?_append_left hi] at h1
    rw [List.getElem?_append_left (by rw [← h.1]; exact hi)] at h2
    exact h.2 i r z' h1 h2
  · have hi' : i = rs.length := by
      have := (List.getElem?_eq_some_iff.1 h1).1
      simp at this; omega
    subst hi'
    rw [List.getElem?_append_right (Nat.le_refl _)] at h1
    rw [h.1, List.getElem?_append_right (Nat.le_refl _)] at h2
    simp at h1 h2
    subst h1; subst h2
    exact hr
theorem rows_snoc (rs : List (Option Addr × Nat × Nat)) (A : Option Addr) (m c : Nat) : rows (rs ++ [(A, m, c)]) = rows rs ++ [.slice A m c] := by simp [rows]
theorem RowsOwn.belowC {w w' : World} {base B : Nat} {rs : List (Option Addr × Nat × Nat)} {zz : List (List Int)} (h : RowsOwn w base rs zz) (hb : Below B w w') (hB : w.heap.size ≤ B) : RowsOwn w' base rs zz :=
  h.map fun v n xs h => ⟨h.1, h.2.imp id fun ⟨g, cap, cur, e1, e2, e3, e4⟩ => ⟨g, cap, cur, e1, e2, (hb.block g (Nat.lt_of_lt_of_le (Array.getElem?_eq_some_iff.1 e3).1 hB)).trans e3, e4⟩⟩
theorem ownsRow_below' {w w' : World} {base B : Nat} {e : TypeId} {sz : Nat} {v : Value} {n : Nat} {xs : List Value} (h : w.ownsRow base e sz v n xs) (hb : Below B w w') (hB : w.heap.size ≤ B) : w'.ownsRow base e sz v n xs :=
  ⟨h.1, h.2.imp id fun ⟨g, cap, cur, e1, e2, e3, e4⟩ => ⟨g, cap, cur, e1, e2, (hb.block g (Nat.lt_of_lt_of_le (Array.getElem?_eq_some_iff.1 e3).1 hB)).trans e3, e4⟩⟩
theorem Rd.sub {w : World} {B len b off s m : Nat} {zs : List Int} (h : Rd w B 1 (some ⟨b, off, none⟩) len (ints zs)) (hs : s + m ≤ len) : Rd w B 1 (some ⟨b, off + s, none⟩) m (ints ((zs.drop s).take m)) := by
  have h1 := (h.dropN (k := s) (by omega)).takeN (k := m) (by omega)
  simp only [Option.map_some, addr_add] at h1
  rw [← List.map_drop, ← List.map_take] at h1
  exact h1
theorem specValuesAll (a : Option Addr) (len cap : Nat) (zs : List Int) (hreach : len * 8 ≤ 140737488351232) (w : World) (hI : Rd w w.heap.size 1 a len (ints zs)) :
    Calls Try.prog 21 #[.slice a len cap, .int .i64 (-1)] w fun e w' => ∃ A c, e = .returned (.slice A len c) ∧ w'.ownsRow w.heap.size 3 1 (.slice A len c) len (ints zs) ∧ Below w.heap.size w w' :=
  (specValues a len cap zs (-1) hreach w hI).mono fun e w' ⟨v, he, hown, hB⟩ => by
    have hz : zs.length = len := by have := hI.1; simpa using this
    have hf : firstN zs.length (-1) = len := by rw [hz]; rfl
    rw [hf, List.take_of_length_le (by omega)] at hown
    obtain ⟨A, c, rfl⟩ := own_slice hown
    exact ⟨A, c, he, hown, hB⟩

set_option maxRecDepth 100000 in
set_option maxHeartbeats 2000000 in
theorem specChunk (a : Option Addr) (len cap : Nat) (zs : List Int) (c : Nat) (most : Int) (hn : len ≤ 4194304) (hcap : len ≤ cap) (hc1 : 1 ≤ c) (hc2 : c ≤ 9223372036854775807) (w : World) (hI : Rd w w.heap.size 1 a len (ints zs)) :
    Calls Try.prog 17 #[.slice a len cap, .int .i64 c, .int .i64 most] w fun e w' => ∃ A cp rs, e = .returned (.slice A (firstN (nCh c len) most) cp) ∧ Rd w' w'.heap.size 1 A (firstN (nCh c len) most) (rows rs) ∧ RowsRd w' w'.heap.size rs (chs c zs (firstN (nCh c len) most)) ∧ Below w.heap.size w w' := by
  have hzl : zs.length = len := by have := hI.1; simpa using this
  have HZ := hide hzl
  clear hzl
  obtain ⟨j0, hj, hy0, hy1, hy2⟩ := info_parts infoSl
  obtain ⟨K, hK⟩ : ∃ K, firstN (nCh c len) most = K := ⟨_, rfl⟩
  rw [hK]
  have HK := hide hK
  clear hK
  go_enter Try.func17, Try.ntmps17
  go_wp2
  go_loopw [7, 8] (fun v u wr => ∃ (i k : Nat) (rs : List (Option Addr × Nat × Nat)), u = .int .i64 i ∧ k ≤ len ∧ i ≤ len ∧ Hid (i < len → i = k * c) ∧ Hid (len ≤ i → nCh c len = k) ∧ Hid (most < 0 ∨ (k : Int) ≤ most) ∧ Hid (k = 0 ∨ (k - 1) * c < len) ∧ wr.ownsRow w.heap.size 22 1 v k (rows rs) ∧ RowsOwn wr w.heap.size rs (chs c zs k) ∧ Below w.heap.size w wr) (fun _ u _ => len - (intOf u).toNat)
  case atStart => exact ⟨0, 0, [], rfl, Nat.zero_le _, Nat.zero_le _, by simp [Hid], fun h => nCh_eq hc1 (by omega) (.inl rfl), by simp [Hid]; omega, .inl rfl, World.ownsRow_nil _ _ _ _, ⟨by simp [chs], by simp⟩, Below.refl _ _⟩
  case round =>
    obtain ⟨i, k, rs, rfl, hkl, hil, hik, hend, hmo, hk0, hown, hrows, hB⟩ := hrel
    have hsz := hB.size
    obtain ⟨A', c', rfl⟩ := own_slice hown
    by_cases hlt : i < len
    · have hi := hik.out hlt
      have hkl : k * c < len := by rw [← hi]; exact hlt
      have hkk : k ≤ k * c := Nat.le_mul_of_pos_right k hc1
      by_cases hm : (k : Int) = most
      · have hm' : ((k : Int) != most) = false := by simpa using hm
        obtain rfl : k = K := by
          have := lt_nCh hc1 hkl
          rw [← HK.out]
          unfold firstN; rw [if_pos (by omega)]; omega
        have hrd : Rd wr wr.heap.size 1 A' k (rows rs) := Rd.of_own hown
        have HR := hide hrows
        clear hm hi hkl hkk hown hrows HK
        go_wp2
        go_ret
        exact ⟨_, _, rs, rfl, hrd, HR.out.rd, hB⟩
      · have hm' : ((k : Int) != most) = true := by simpa using hm
        obtain ⟨b, off, rfl, hb, _⟩ := (hI.below hB).2 (by omega)
        obtain ⟨m, hmm⟩ : ∃ m, chL c len k = m := ⟨_, rfl⟩
        have hmv : m = if len - i < c then len - i else c := by rw [← hmm, chL, hi]
        have hmi : i + m ≤ len := by rw [hmv]; split <;> omega
        have hm1 : 1 ≤ m := by rw [hmv]; split <;> omega
        have hsub := (hI.below hB).sub (s := i) (m := m) hmi
        have hca : chAt c zs k = (zs.drop i).take m := by unfold chAt; rw [HZ.out, hmm, hi]
        have hkc : (k + 1 - 1) * c < len := by simpa using hkl
        have HCA := hide hca
        have HKC := hide hkc
        have HMO : Hid (most < 0 ∨ ((k + 1 : Nat) : Int) ≤ most) := by
          rcases hmo.out with h | h
          · exact .inl h
          · exact .inr (by omega)
        have HK1 : Hid (i + m < len → i + m = (k + 1) * c) := fun h => by
          rw [Nat.succ_mul, ← hi]; rw [hmv] at h ⊢; split at h
          · omega
          · rename_i h2; rw [if_neg h2]
        have HE1 : Hid (len ≤ i + m → nCh c len = k + 1) := fun h => nCh_eq hc1 (by
          rw [Nat.succ_mul, ← hi]; rw [hmv] at h; split at h <;> omega) (.inr hkc)
        have hkb : k + 1 ≤ len := by omega
        clear hm hca hkc hkl hkk hi hmm
        have hsv := fun (W : World) (h : Rd W W.heap.size 1 (some ⟨b, off + i, none⟩) m (ints ((zs.drop i).take m))) => specValuesAll (some ⟨b, off + i, none⟩) m (cap - i) ((zs.drop i).take m) (by omega) W h
        have HSV := hide (hsv wr (hsub.more hsz))
        obtain ⟨Z, hZ⟩ : ∃ Z, (zs.drop i).take m = Z := ⟨_, rfl⟩
        rw [hZ] at HSV HCA
        clear hsv hZ hsub
        have hil2 : (i : Int) < (len : Int) := by omega
        have htn : ((i : Int) + (m : Int)).toNat = i + m := by omega
        have hims : i + m - i = m := by omega
        have himc : i + m ≤ cap := by omega
        have hne : ¬ (cap = i) := by omega
        by_cases hcs : c < len - i
        · obtain rfl : m = c := by rw [hmv, if_neg (by omega)]
          obtain ⟨d, hd⟩ : ∃ d, len - i = d := ⟨_, rfl⟩
          have hcs1 : m < d := by omega
          have hcs2 : (m : Int) < (d : Int) := by omega
          clear hmv hcs
          go_wp2_with (first
            | (go_at_call 21; refine HSV.out.mono ?_; rintro e w2 ⟨A2, c2, rfl, own2, hb2⟩; have hown2 := ownsRow_below' hown hb2 (Nat.le_refl _); have hs2 := hb2.size)
            | (at_builtin; go_must (refine wpList_append_own _ rfl _ _ 23 rfl w.heap.size 22 j0 (.slice none 0 0) 1 24 Try.underlying23 hj hy0 hy1 hy2 rfl (by decide) _ _ _ rfl (hown2.alloc _) ⟨w2.heap.size, 0, none⟩ 1 1 [.slice A2 m c2] rfl rfl (cell_one_new _ _ _) (by simp [Value.oneCell']) (by unfold maxLen; omega) (by omega) (by simp; omega) ?_); intro v' w3 hown' hgrow _))
          have hb3 := below_append ((hB.trans (hb2.mono hsz))) (by omega) (Nat.le_refl _) hown2 hgrow
          have hro : RowsOwn w3 w.heap.size (rs ++ [(A2, m, c2)]) (chs m zs (k + 1)) := by
            rw [chs_succ, HCA.out]
            refine RowsOwn.map (RowsOwn.snoc' (hrows.belowC hb2 (Nat.le_refl _)) (own_base own2 hsz)) fun v n xs h => (h.alloc _).kept hgrow (own_apart h hown2 (by decide))
          rw [← rows_snoc] at hown'
          go_roundw
          case rel => exact ⟨i + m, k + 1, rs ++ [(A2, m, c2)], by first | go_num | (congr 1; omega), hkb, hmi, HK1, HE1, HMO, .inr HKC.out, hown', hro, hb3⟩
          case measure => simp [intOf]; omega
        · obtain hlm : len - i = m := by rw [hmv]; split <;> omega
          have hcs1 : ¬ c < m := by omega
          have hcs2 : ¬ (c : Int) < (m : Int) := by omega
          have hile : i ≤ len := by omega
          clear hmv hcs
          go_wp2_with (first
            | (go_at_call 21; refine HSV.out.mono ?_; rintro e w2 ⟨A2, c2, rfl, own2, hb2⟩; have hown2 := ownsRow_below' hown hb2 (Nat.le_refl _); have hs2 := hb2.size)
            | (at_builtin; go_must (refine wpList_append_own _ rfl _ _ 23 rfl w.heap.size 22 j0 (.slice none 0 0) 1 24 Try.underlying23 hj hy0 hy1 hy2 rfl (by decide) _ _ _ rfl (hown2.alloc _) ⟨w2.heap.size, 0, none⟩ 1 1 [.slice A2 m c2] rfl rfl (cell_one_new _ _ _) (by simp [Value.oneCell']) (by unfold maxLen; omega) (by omega) (by simp; omega) ?_); intro v' w3 hown' hgrow _))
          have hb3 := below_append ((hB.trans (hb2.mono hsz))) (by omega) (Nat.le_refl _) hown2 hgrow
          have hro : RowsOwn w3 w.heap.size (rs ++ [(A2, m, c2)]) (chs c zs (k + 1)) := by
            rw [chs_succ, HCA.out]
            refine RowsOwn.map (RowsOwn.snoc' (hrows.belowC hb2 (Nat.le_refl _)) (own_base own2 hsz)) fun v n xs h => (h.alloc _).kept hgrow (own_apart h hown2 (by decide))
          rw [← rows_snoc] at hown'
          go_roundw
          case rel => exact ⟨i + m, k + 1, rs ++ [(A2, m, c2)], by first | go_num | (congr 1; omega), hkb, hmi, HK1, HE1, HMO, .inr HKC.out, hown', hro, hb3⟩
          case measure => simp [intOf]; omega
    · obtain rfl : k = K := by
        have h1 := hend.out (by omega)
        rw [← HK.out, h1]
        unfold firstN
        split
        · rcases hmo.out with h | h <;> omega
        · rfl
      have hrd : Rd wr wr.heap.size 1 A' k (rows rs) := Rd.of_own hown
      have HR := hide hrows
      clear hown hrows HK
      go_wp2
      go_ret
      exact ⟨_, _, rs, rfl, hrd, HR.out.rd, hB⟩
end Go.Proofs.Ytiihcdoemgmjbaa
