/-
  spec.SortedStrings: the selection of the least of what is left.
-/
import Derived.Test.YthefajbahbmohaaSpecSort
import Derived.Test.YthefajbahbmohaaLessS
namespace Go.Proofs.Ythefajbahbmohaa
open Go.RowKit
set_option linter.unusedVariables false
set_option linter.unusedSimpArgs false

set_option maxRecDepth 100000 in
set_option maxHeartbeats 4000000 in
theorem specSortedS (a : Option Addr) (len cap : Nat) (zs : List ByteArray) (hreach : len * 16 ≤ 140737488351232) (hf : ∀ x ∈ zs, x.size ≤ 9223372036854775807) (w : World) (hI : Rd w w.heap.size 1 a len (strs zs)) :
    Calls Try.prog 20 #[.slice a len cap] w fun e w' => ∃ A c, e = .returned (.slice A len c) ∧ w'.ownsRow w.heap.size 9 1 (.slice A len c) len (strs (srtS zs)) ∧ Below w.heap.size w w' := by
  have hzl : zs.length = len := by have := hI.1; simpa using this
  obtain ⟨S, hS⟩ : ∃ S, srtS zs = S := ⟨_, rfl⟩
  have hsl : S.length = len := by rw [← hS, srtS_length, hzl]
  have HS := hide hS
  have HL := hide hsl
  have HZ := hide hzl
  have HF := hide hf
  rw [hS]
  clear hS hsl hzl hf
  obtain ⟨i0, hi, hz0, hz1, hz2⟩ := info_parts infoStr
  go_enter Try.func20, Try.ntmps20
  go_wp2
  go_loopw [3, 12] (fun v i wr => ∃ k : Nat, k ≤ len ∧ i = .int .i64 k ∧ wr.ownsRow w.heap.size 9 1 v k (strs (zs.take k)) ∧ Below w.heap.size w wr) (fun _ i _ => len - (intOf i).toNat)
  case atStart => exact ⟨0, Nat.zero_le _, rfl, by simpa using World.ownsRow_nil _ _ _ _, Below.refl _ _⟩
  case round =>
  obtain ⟨k1, hk1, rfl, hown1, hB1⟩ := hrel
  have hsz1 := hB1.size
  obtain ⟨A1, c1, rfl⟩ := own_slice hown1
  by_cases hlt1 : k1 < len
  · obtain ⟨b, off, x, rfl, hb, hx, hcx⟩ := (hI.below hB1).strx hlt1
    go_wp2_with (at_builtin; go_must (refine wpList_append_own _ rfl _ _ 29 rfl w.heap.size 9 i0 (.string ByteArray.empty) 1 16 Try.underlying29 hi hz0 hz1 hz2 rfl (by decide) _ _ _ rfl (hown1.alloc _) ⟨wr.heap.size, 0, none⟩ 1 1 [.string x] rfl rfl (cell_one_new _ _ _) (by simp [Value.oneCell']) (by unfold maxLen; omega) (by omega) (by simp; omega) ?_); intro v' w2 hown' hgrow _)
    have hb2 := below_append hB1 hsz1 (Nat.le_refl _) hown1 hgrow
    go_roundw
    case rel => exact ⟨k1 + 1, by omega, by go_num, by rw [str_snoc hx.out]; exact hown', hb2⟩
    case measure => simp [intOf]; omega
  obtain rfl : k1 = len := by omega
  rw [List.take_of_length_le (by rw [HZ.out]; exact Nat.le_refl _)] at hown1
  have hc1 := own_cap hown1
  obtain ⟨w1, hw1⟩ : ∃ w0 : World, w0 = wr := ⟨_, rfl⟩
  rw [← hw1] at hown1 hB1 hsz1 ⊢
  clear hw1
  go_wp2_with fail
  go_loopw [3, 4] (fun l v wr => ∃ k m : Nat, k + m = k1 ∧ ∃ A c L, l = .slice A m c ∧ m ≤ c ∧ Rd wr wr.heap.size 1 A m (strs L) ∧ Hid (L.Perm (S.drop k)) ∧ wr.ownsRow w.heap.size 9 1 v k (strs (S.take k)) ∧ Apart A m v ∧ Below w.heap.size w wr) (fun l _ _ => match l with | .slice _ m _ => m | _ => 0)
  case atStart => exact ⟨0, k1, by omega, A1, c1, zs, rfl, hc1, Rd.of_own hown1, hide (by rw [List.drop_zero, ← HS.out]; exact (srtS_perm zs).symm), by simpa using World.ownsRow_nil _ _ _ _, fun _ _ _ _ => by simp [Value.ownBlock], hB1⟩
  case round =>
    obtain ⟨k, m, hkm, A, c, L, rfl, hmc, hrd, hperm, hown, hap, hB⟩ := hrel
    have hsz := hB.size
    obtain ⟨Ao, co, rfl⟩ := own_slice hown
    by_cases hm : 0 < m
    · have hm' : ((m : Int) > 0) := by omega
      have hLl : L.length = m := by have := hrd.1; simpa using this
      have HLL := hide hLl
      have hin : ∀ y ∈ L, y ∈ zs := fun y hy => by
        have h1 := List.mem_of_mem_drop (hperm.out.mem_iff.1 hy)
        rw [← HS.out] at h1
        exact (srtS_perm zs).mem_iff.1 h1
      have HIN := hide hin
      clear hin
      clear hLl
      obtain ⟨wR, hwR⟩ : ∃ w0 : World, w0 = wr := ⟨_, rfl⟩
      rw [← hwR] at hrd hown hB hsz ⊢
      clear hwR
      go_wp2_with fail
      go_loopw [7, 26] (fun at' i wr => ∃ p j : Nat, p < m ∧ j ≤ m ∧ at' = .int .i64 p ∧ i = .int .i64 j ∧ Hid (LeastS L j p) ∧ Drew wR wr) (fun _ i _ => m - (intOf i).toNat)
      case atStart => exact ⟨0, 0, hm, Nat.zero_le _, rfl, rfl, hide (fun _ _ _ _ h => absurd h (Nat.not_lt_zero _)), Drew.refl _⟩
      case round =>
        obtain ⟨p, j, hp, hj, rfl, rfl, hleast, hwr⟩ := hrel
        have hrd : Rd wr wr.heap.size 1 A m (strs L) := by rw [hwr.heap]; exact hrd.ofDrew hwr
        have hown := own_drew hown hwr
        have hB : Below w.heap.size w wr := hB.trans (hwr.below _)
        have hsz := hB.size
        by_cases hlt : j < m
        · obtain ⟨b, off, x, rfl, hb, hx, hcx⟩ := hrd.strx hp
          obtain ⟨b', off', y, hbe, hb', hy, hcy⟩ := hrd.strx hlt
          injection hbe with hbe
          injection hbe with hbe1 hbe2
          subst hbe1 hbe2
          have hxm : x ∈ zs := (HIN.out x (List.mem_of_getElem? hx.out))
          have hym : y ∈ zs := (HIN.out y (List.mem_of_getElem? hy.out))
          have hless := lessStr y x wr (HF.out y hym) (HF.out x hxm)
          have HLE := hide hless
          clear hless hxm hym
          by_cases hxy : bytes y < bytes x
          · have HLT := hide (leS_of_lt hxy)
            have hdt : decide (bytes y < bytes x) = true := by simpa using hxy
            have HLE2 := HLE.out
            rw [hdt] at HLE2
            have HLE3 := hide HLE2
            clear HLE2 hdt hxy HLE
            go_wp2_with fail
            refine HLE3.out.mono ?_
            rintro e w3 ⟨rfl, hd3⟩
            go_wp2_with fail
            go_roundw
            case rel => exact ⟨j, j + 1, hlt, by omega, by go_num, by go_num, hide (hleast.out.next hx.out hy.out HLT.out), hwr.trans hd3⟩
            case measure => simp [intOf]; omega
          · have HLT := hide (leS_of_not hxy)
            have hdt : decide (bytes y < bytes x) = false := by simpa using hxy
            have HLE2 := HLE.out
            rw [hdt] at HLE2
            have HLE3 := hide HLE2
            clear HLE2 hdt hxy HLE
            go_wp2_with fail
            refine HLE3.out.mono ?_
            rintro e w3 ⟨rfl, hd3⟩
            go_wp2_with fail
            go_roundw
            case rel => exact ⟨p, j + 1, hp, by omega, rfl, by go_num, hide (hleast.out.keep hx.out hy.out HLT.out), hwr.trans hd3⟩
            case measure => simp [intOf]; omega
        · obtain rfl : j = m := by omega
          obtain ⟨b, off, x, rfl, hb, hx, hcx⟩ := hrd.strx hp
          have hsel : S[k]? = some x ∧ (L.eraseIdx p).Perm (S.drop (k + 1)) := by
            have h1 := hleast.out
            rw [← HLL.out] at h1
            have h2 := hperm.out
            rw [← HS.out] at h2 ⊢
            exact select_stepS h2 hx.out (h1.all hx.out)
          have HSEL := hide hsel
          clear hsel
          obtain ⟨mm, rfl⟩ : ∃ mm, j = p + 1 + mm := ⟨j - (p + 1), by omega⟩
          go_wp2_with (at_builtin; go_must (refine wpList_append_lies _ rfl _ _ 29 rfl w.heap.size 9 i0 (.string ByteArray.empty) 1 16 Try.underlying29 hi hz0 hz1 hz2 rfl (by decide) _ _ _ rfl (hown.alloc _) ⟨wr.heap.size, 0, none⟩ 1 1 [.string x] rfl rfl (cell_one_new _ _ _) (by simp [Value.oneCell']) (by decide) (by unfold maxLen; omega) (by omega) (by simp; omega) _ rfl ?_); intro g cap' w2 hown' hgrow hat hlt2)
          have hrd2 : Rd w2 wr.heap.size 1 (some ⟨b, off, none⟩) (p + 1 + mm) (strs L) := (hrd.alloc (Nat.le_refl _) (.cells #[.string x] 9)).far (by simp) hgrow hap
          have hsz2 : wr.heap.size + 1 ≤ w2.heap.size := by have := hgrow.size; simpa using this
          have hB2 : Below w.heap.size w w2 := below_append hB hsz (Nat.le_refl _) hown hgrow
          have hgb : b ≠ g := by
            rcases hat with h | h
            · intro e; subst e; exact hap hm b off rfl h
            · intro e; simp at h; omega
          have hown2 : w2.ownsRow w.heap.size 9 1 (.slice (some ⟨g, 0, none⟩) (k + 1) cap') (k + 1) (strs (S.take (k + 1))) := by rw [str_snoc HSEL.out.1]; exact hown'
          have hpc : p ≤ c := by omega
          have hpc2 : (p : Int) + 1 ≤ (p : Int) + 1 + (mm : Int) := by omega
          have hpc3 : 0 ≤ (p : Int) + 1 := by omega
          have hpc4 : ((p : Int) + 1).toNat = p + 1 := by omega
          have hwrap : IntKind.i64.wrap ((p : Int) + 1) = (p : Int) + 1 := IntWalk.i64_in _ (by omega)
          clear hcx hown hrd hown' hgrow hat
          have hd1 : Rd w2 wr.heap.size 1 (some ⟨b, off, none⟩) p ((strs L).take p) := hrd2.takeN (by omega)
          have hd2 : Rd w2 wr.heap.size 1 (some ⟨b, off + (p + 1), none⟩) mm ((strs L).drop (p + 1)) := by
            have := hrd2.dropN (k := p + 1) (by omega)
            simp only [Option.map_some, addr_add] at this
            rwa [show p + 1 + mm - (p + 1) = mm by omega] at this
          have her : strs (L.eraseIdx p) = (strs L).take p ++ (strs L).drop (p + 1) := by
            rw [List.eraseIdx_eq_take_drop_succ, strs, strs, List.map_append, List.map_take, List.map_drop]
          by_cases hmm0 : 0 < mm
          · have hcne : ¬ (c = p + 1) := by omega
            go_still_tail 8, (by kernel_rfl)
            change wpList _ _ _ _ _ w2.drew
            at_builtin
            refine wpList_append_grows w2.drew rfl (.tmp 49) (.tmp 53) 29 rfl 9 i0 (.string ByteArray.empty) 1 16 Try.underlying29 hi hz0 hz1 hz2 rfl (by decide) (some ⟨b, off, none⟩) p p ((strs L).take p) rfl (by simp) (by have := hd1.1; simpa using this) (fun b' e => hd1.drew.src b' e) ⟨b, off + (p + 1), none⟩ mm (c - (p + 1)) ((strs L).drop (p + 1)) rfl (by have := hd2.1; simpa using this) (hd2.drew.src _ rfl) (fun u hu => strs_one L u (List.mem_of_mem_drop hu)) (by omega) (by unfold maxLen; omega) (by omega) ?_
            intro v3 w3 own3 hg3
            obtain ⟨A3, c3, rfl⟩ := own_slice own3
            have hc3 := own_cap own3
            have hown3 : w3.ownsRow w.heap.size 9 1 (.slice (some ⟨g, 0, none⟩) (k + 1) cap') (k + 1) (strs (S.take (k + 1))) := hown2.drew.kept hg3 (.inr (by simp [Value.ownBlock]))
            have hB3 : Below w.heap.size w w3 := hB2.drew.grown hg3 (by simp; omega) (by simp)
            have hap3 : Apart A3 (p + mm) (.slice (some ⟨g, 0, none⟩) (k + 1) cap') := by
              intro _ b' off' e
              subst e
              have h1 := (own3.lt b' (by
                rcases own3.2 with ⟨h, _⟩ | ⟨g3, _, _, h, _⟩
                · simp at h
                · injection h with h; injection h with h; injection h with h1 h2; subst h1; subst h2; rfl)).1
              intro h
              have h2 : g = b' := by simpa [Value.ownBlock] using h
              have h3 : w2.heap.size ≤ b' := h1
              omega
            have own3' : w3.ownsRow w2.drew.heap.size 9 1 (.slice A3 (p + mm) c3) (p + mm) (strs (L.eraseIdx p)) := by rw [her]; exact own3
            have hrd3 := Rd.of_own own3'
            clear own3 own3'
            go_wp2
            go_roundw
            case rel => exact ⟨k + 1, p + mm, by omega, A3, c3, L.eraseIdx p, rfl, hc3, hrd3, hide HSEL.out.2, hown3, hap3, hB3⟩
            case measure => first | (simp; done) | (simp; omega)
          · obtain rfl : mm = 0 := by omega
            have hdr0 : (strs L).drop (p + 1) = [] := List.eq_nil_of_length_eq_zero (by have := hd2.1; simpa using this)
            simp only [Nat.add_zero] at *
            by_cases hcne : c = p + 1
            · subst hcne
              have hpc5 : (p : Int) ≤ (p : Int) + 1 := by omega
              have hpc6 : p ≤ p + 1 := by omega
              go_still_tail 8, (by kernel_rfl)
              change wpList _ _ _ _ _ w2.drew
              at_builtin
              refine wpList_append_zero w2.drew rfl (.tmp 49) (.tmp 53) 29 rfl 9 i0 Try.underlying29 hi _ p p (Nat.le_refl _) rfl _ _ rfl ?_
              go_wp2
              go_roundw
              case rel => exact ⟨k + 1, p, by omega, some ⟨b, off, none⟩, p, L.eraseIdx p, rfl, Nat.le_refl _, by rw [her, hdr0, List.append_nil]; exact (hd1.drew.more (by simp; omega)), hide HSEL.out.2, hown2.drew, fun _ b' off' e => by injection e with e; injection e with e _; subst e; simpa [Value.ownBlock] using hgb.symm, hB2.drew⟩
              case measure => first | (simp; done) | (simp; omega)
            · go_still_tail 8, (by kernel_rfl)
              change wpList _ _ _ _ _ w2.drew
              at_builtin
              refine wpList_append_zero w2.drew rfl (.tmp 49) (.tmp 53) 29 rfl 9 i0 Try.underlying29 hi _ p p (Nat.le_refl _) rfl _ _ rfl ?_
              go_wp2
              go_roundw
              case rel => exact ⟨k + 1, p, by omega, some ⟨b, off, none⟩, p, L.eraseIdx p, rfl, Nat.le_refl _, by rw [her, hdr0, List.append_nil]; exact (hd1.drew.more (by simp; omega)), hide HSEL.out.2, hown2.drew, fun _ b' off' e => by injection e with e; injection e with e _; subst e; simpa [Value.ownBlock] using hgb.symm, hB2.drew⟩
              case measure => first | (simp; done) | (simp; omega)
    · obtain rfl : m = 0 := by omega
      obtain rfl : k = k1 := by omega
      rw [List.take_of_length_le (by rw [HL.out]; exact Nat.le_refl _)] at hown
      have HO := hide hown
      clear hown
      go_wp2
      go_ret
      exact ⟨Ao, co, rfl, HO.out, hB⟩
end Go.Proofs.Ythefajbahbmohaa
