/-
  slices.nextPowerOfTwo, (*xorshift).Next and slices.breakPatternsCmpFunc at items.
-/
import Derived.Test.YtiocgmeonfanmaaStB
import Derived.Test.YtiocgmeonfanmaaShelf
import Derived.Shelf.SlSortCmp.Xorshift
import Derived.Sort.Walk7
import Derived.Deep.LoopGhost
namespace Go.Proofs.Ytiocgmeonfanmaa
open Go.RowKit Go.Sort Go.Shelf Go.Lib
set_option linter.unusedVariables false
set_option linter.unusedSimpArgs false

set_option maxHeartbeats 1000000 in
theorem nextPow (n : Nat) (hn : n < 4611686018427387904) (w : World) :
    Calls Try.prog 66 #[.int .i64 n] w fun e w' => e = .returned (.int .u64 ((1 <<< bitsLen n : Nat) : Int)) ∧ w' = w := by
  have mixed := mixedI
  have hLen : ∀ w, Calls Try.prog 41 #[.int .u64 (n : Int)] w fun e w' => e = .returned (.int .i64 (bitsLen n : Nat)) ∧ w' = w := fun w => by
    have h := Try.bits_Len (n : Int) w (by omega) (by omega)
    rwa [Int.toNat_natCast, bitLen_eq _ (by omega)] at h
  have hk : bitsLen n ≤ 62 := (bitsLen_le_iff n 62).2 (by omega)
  have hp := wrap_two_pow (bitsLen n) hk
  have wr : IntKind.u64.wrap (n : Int) = n := by simp [IntKind.wrap, IntKind.bits, IntKind.signed]; omega
  go_enter Try.func66, Try.ntmps66
  go_wp2_with (first | (go_at_call 41; refine (hLen _).mono ?_; rintro e w' ⟨rfl, rfl⟩))
  go_ret
  exact ⟨rfl, rfl⟩

set_option maxHeartbeats 2000000 in
set_option maxRecDepth 1000000 in
theorem xorNextI (rb ro X : Nat) (hX : X < 18446744073709551616) (w : World) (hc : w.cell? ⟨rb, ro, none⟩ = some (.int .u64 X)) (hf : w.frozen? ⟨rb, ro, none⟩ = false) :
    Calls Try.prog 67 #[.pointer (some ⟨rb, ro, none⟩)] w fun e w' => e = .returned (.int .u64 (xorNextN X : Nat)) ∧ w' = (w.setCell ⟨rb, ro, none⟩ (.int .u64 (xorNextN X : Nat))).drewN 3 := by
  have mixed := mixedI
  obtain ⟨A, hA⟩ : ∃ A : Nat, A = X ^^^ (X * 8192 % 18446744073709551616) := ⟨_, rfl⟩
  obtain ⟨B, hB⟩ : ∃ B : Nat, B = A ^^^ (A / 128) := ⟨_, rfl⟩
  obtain ⟨C, hC⟩ : ∃ C : Nat, C = B ^^^ (B * 131072 % 18446744073709551616) := ⟨_, rfl⟩
  have lA : A < 18446744073709551616 := by rw [hA]; exact Nat.xor_lt_two_pow (n := 64) (by omega) (by omega)
  have lB : B < 18446744073709551616 := by rw [hB]; exact Nat.xor_lt_two_pow (n := 64) (by omega) (by omega)
  have e1 : bits .xor .u64 (X : Int) (IntKind.u64.wrap ((X : Int) * 8192)) = (A : Int) := by
    rw [IntKind.wrap_u64, show ((X : Int) * 8192 % 18446744073709551616) = ((X * 8192 % 18446744073709551616 : Nat) : Int) by omega, bits_xor_u64_nat _ _ hX (by omega), hA]
  have e2 : bits .xor .u64 (A : Int) ((A : Int) / 128) = (B : Int) := by
    rw [show ((A : Int) / 128) = ((A / 128 : Nat) : Int) by omega, bits_xor_u64_nat _ _ lA (by omega), hB]
  have e3 : bits .xor .u64 (B : Int) (IntKind.u64.wrap ((B : Int) * 131072)) = (C : Int) := by
    rw [IntKind.wrap_u64, show ((B : Int) * 131072 % 18446744073709551616) = ((B * 131072 % 18446744073709551616 : Nat) : Int) by omega, bits_xor_u64_nat _ _ lB (by omega), hC]
  have hv : xorNextN X = C := by unfold xorNextN; simp only []; rw [← hA, ← hB, ← hC]
  rw [hv]
  clear hA hB hC hv
  have hss : ∀ v v', (w.setCell ⟨rb, ro, none⟩ v).setCell ⟨rb, ro, none⟩ v' = w.setCell ⟨rb, ro, none⟩ v' := setCell_setCell w rb ro
  go_enter Try.func67, Try.ntmps67
  go_wp2
  go_region_o
  all_goals go_wp2
  all_goals go_region_o
  all_goals go_wp2
  all_goals go_region_o
  all_goals go_wp2
  go_ret
  exact ⟨rfl, rfl⟩

variable {α : Type} [Inhabited α]
/-- an exchange of two places, and a cell beside the row -/
theorem SWI.swappedK {it : α → Int × Int} {w0 W : World} {blk off : Nat} {d0 dk : Array α} {cc : Nat} {v : Value} (hne : cc ≠ blk) (KC : W.cell? ⟨cc, 0, none⟩ = some v ∧ W.frozen? ⟨cc, 0, none⟩ = false) (S : SWK (encI it) 2 w0 blk off dk W) (R : RowK (encI it) 2 w0 blk off d0) (i j : Nat) (hi : i < dk.size) (hj : j < dk.size) :
    SWK (encI it) 2 w0 blk off (swp dk i j) ((((W.setCell ⟨blk, off + i * 2, none⟩ (.int .i64 (it dk[j]!).1)).setCell ⟨blk, off + i * 2 + 1, none⟩ (.int .i64 (it dk[j]!).2)).setCell ⟨blk, off + j * 2, none⟩ (.int .i64 (it dk[i]!).1)).setCell ⟨blk, off + j * 2 + 1, none⟩ (.int .i64 (it dk[i]!).2)).drew ∧ (((((W.setCell ⟨blk, off + i * 2, none⟩ (.int .i64 (it dk[j]!).1)).setCell ⟨blk, off + i * 2 + 1, none⟩ (.int .i64 (it dk[j]!).2)).setCell ⟨blk, off + j * 2, none⟩ (.int .i64 (it dk[i]!).1)).setCell ⟨blk, off + j * 2 + 1, none⟩ (.int .i64 (it dk[i]!).2)).drew.cell? ⟨cc, 0, none⟩ = some v ∧ ((((W.setCell ⟨blk, off + i * 2, none⟩ (.int .i64 (it dk[j]!).1)).setCell ⟨blk, off + i * 2 + 1, none⟩ (.int .i64 (it dk[j]!).2)).setCell ⟨blk, off + j * 2, none⟩ (.int .i64 (it dk[i]!).1)).setCell ⟨blk, off + j * 2 + 1, none⟩ (.int .i64 (it dk[i]!).2)).drew.frozen? ⟨cc, 0, none⟩ = false) := by
  have e : ∀ (W : World) (x : Nat) (u : Value), W.cell? ⟨cc, 0, none⟩ = some v ∧ W.frozen? ⟨cc, 0, none⟩ = false → (W.setCell ⟨blk, x, none⟩ u).cell? ⟨cc, 0, none⟩ = some v ∧ (W.setCell ⟨blk, x, none⟩ u).frozen? ⟨cc, 0, none⟩ = false := fun W x u h => by
    refine ⟨?_, by simpa using h.2⟩
    have hx : (⟨blk, x, none⟩ : Addr) ≠ ⟨cc, 0, none⟩ := by intro hh; exact hne (congrArg Addr.block hh).symm
    exact (World.cell?_setCell_other (h := hx) ..).trans h.1
  refine ⟨SWI.swapped S R i j hi hj, ?_⟩
  have h4 := e _ (off + j * 2 + 1) (.int .i64 (it dk[i]!).2) (e _ (off + j * 2) (.int .i64 (it dk[i]!).1) (e _ (off + i * 2 + 1) (.int .i64 (it dk[j]!).2) (e W (off + i * 2) (.int .i64 (it dk[j]!).1) KC)))
  exact ⟨by simpa using h4.1, by simpa using h4.2⟩

set_option maxHeartbeats 8000000 in
set_option maxRecDepth 1000000 in
/-- the arm 'length >= 8', b written as a + L -/
theorem breakGo (it : α → Int × Int) (cv : Value) (blk off cap a L : Nat) (d0 d : Array α) (w0 w : World) (R : RowK (encI it) 2 w0 blk off d0) (hs : d.size = d0.size) (S : SWK (encI it) 2 w0 blk off d w) (hb : a + L ≤ d.size) (hsz : d.size < 2305843009213693952) (h8 : 8 ≤ L) :
    Calls Try.prog 47 #[.slice (some ⟨blk, off, none⟩) d.size cap, .int .i64 a, .int .i64 ((a + L : Nat) : Int), cv] w fun e w' => e = .returned (.tuple #[]) ∧ SWK (encI it) 2 w0 blk off (breakPatterns d a (a + L)) w' := by
  have mixed := mixedI
  have HS := hide hs
  clear hs
  rw [breakPatterns_eq d a L h8]
  obtain ⟨M, hM⟩ : ∃ M : Nat, M = 1 <<< bitsLen L := ⟨_, rfl⟩
  have hM1 : 1 ≤ M := by rw [hM, Nat.one_shiftLeft]; exact Nat.two_pow_pos _
  have hM2 : M ≤ 2 * L := by rw [hM, Nat.one_shiftLeft]; exact two_pow_bitsLen_le (by omega)
  have hNP : ∀ w, Calls Try.prog 66 #[.int .i64 (L : Int)] w fun e w' => e = .returned (.int .u64 (M : Int)) ∧ w' = w := by rw [hM]; exact fun w => nextPow L (by omega) w
  rw [← hM]
  clear hM
  have hLz : ((a : Int) + (L : Int) - (a : Int)) = (L : Int) := by omega
  have h8z : (8 : Int) ≤ (L : Int) := by omega
  have hne : w.heap.size ≠ blk := by have := S.lt R.hblk; omega
  have hle0 : w0.heap.size ≤ w.heap.size := S.le
  have S0 : Hid (SWK (encI it) 2 w0 blk off d w) := S
  clear S
  go_enter Try.func47, Try.ntmps47
  go_wp2_with (first | (go_at_call 66; refine (hNP _).mono ?_; rintro e w' ⟨rfl, rfl⟩))
  go_loopg [11] 3 (fun g1 vi wr => ∃ (t p : Nat) (r : UInt64) (dk : Array α), vi = .int .i64 p ∧ Hid (p = a + L / 4 * 2 - 1 + t) ∧ t ≤ 3 ∧ 3 - t ≤ g1 ∧ Hid (dk.size = d.size) ∧ Hid (SWK (encI it) 2 w0 blk off dk wr) ∧
      wr.cell? ⟨w.heap.size, 0, none⟩ = some (.int .u64 (r.toNat : Int)) ∧ wr.frozen? ⟨w.heap.size, 0, none⟩ = false ∧
      Hid (bpRest a L M (a + L / 4 * 2 - 1) (3 - t) t (r, dk) = bpRest a L M (a + L / 4 * 2 - 1) 3 0 (UInt64.ofNat L, d)))
  case atStart =>
    refine ⟨0, a + L / 4 * 2 - 1, UInt64.ofNat L, d, by congr 1; omega, hide (by omega), by omega, by omega, hide rfl, hide (S0.out.alloc _), ?_, by simp, hide rfl⟩
    rw [show (UInt64.ofNat L).toNat = L from by simp; omega]
    simp
  case round =>
    clear S0
    obtain ⟨t, p, r, dk, rfl, HP, ht, hg1, hds, S1, cR, fR, HR⟩ := hrel
    have hpb : p < d.size := by have := HP.out; omega
    have hp3 : t < 3 → (p : Int) ≤ (a : Int) + (L : Int) / 4 * 2 + 1 := by have := HP.out; omega
    have hp4 : t = 3 → ¬ ((p : Int) ≤ (a : Int) + (L : Int) / 4 * 2 + 1) := by have := HP.out; omega
    have S2z : dk.size = d.size := hds.out
    by_cases ht3 : t < 3
    · have hle := hp3 ht3
      clear hp3 hp4
      obtain ⟨R0, hRr⟩ : ∃ R0 : Nat, R0 = r.toNat := ⟨_, rfl⟩
      have lR : R0 < 18446744073709551616 := by rw [hRr]; exact r.toNat_lt
      obtain ⟨R', hR'⟩ : ∃ R' : Nat, R' = xorNextN R0 := ⟨_, rfl⟩
      have lR' : R' < 18446744073709551616 := by rw [hR']; exact xorNextN_lt R0 lR
      obtain ⟨O, hO⟩ : ∃ O : Nat, O = R' &&& (M - 1) := ⟨_, rfl⟩
      have lO : O ≤ M - 1 := by rw [hO]; exact Nat.and_le_right
      have eAnd : bits .and .u64 (R' : Int) ((M : Int) - 1) = (O : Int) := by
        rw [show ((M : Int) - 1) = ((M - 1 : Nat) : Int) by omega, bits_and_u64_nat _ _ lR' (by omega), hO]
      rw [← hRr] at cR
      have hNext : Calls Try.prog 67 #[.pointer (some ⟨w.heap.size, 0, none⟩)] wr fun e w' => e = .returned (.int .u64 (R' : Int)) ∧ w' = (wr.setCell ⟨w.heap.size, 0, none⟩ (.int .u64 (R' : Int))).drewN 3 := by
        rw [hR']; exact xorNextI _ _ R0 lR wr cR fR
      have HN : Hid (R' = (xorNext r).toNat ∧ O = (xorNext r).toNat &&& (M - 1)) := by
        have e : R' = (xorNext r).toNat := by rw [hR', hRr, xorNext_toNat]
        exact ⟨e, by rw [hO, e]⟩
      clear hRr hR' hO
      have S2 : Hid (SWK (encI it) 2 w0 blk off dk ((wr.setCell ⟨w.heap.size, 0, none⟩ (.int .u64 (R' : Int))).drewN 3)) := hide ((S1.out.setCell_new w.heap.size 0 (.int .u64 (R' : Int)) hle0).drewN 3)
      have cR' : ((wr.setCell ⟨w.heap.size, 0, none⟩ (.int .u64 (R' : Int))).drewN 3).cell? ⟨w.heap.size, 0, none⟩ = some (.int .u64 (R' : Int)) := by
        rw [World.cell?_drewN]; exact World.cell?_setCell_same _ _ _ cR
      have fR' : ((wr.setCell ⟨w.heap.size, 0, none⟩ (.int .u64 (R' : Int))).drewN 3).frozen? ⟨w.heap.size, 0, none⟩ = false := by
        rw [World.frozen?_drewN]; simpa using fR
      generalize (wr.setCell ⟨w.heap.size, 0, none⟩ (.int .u64 (R' : Int))).drewN 3 = w2 at hNext S2 cR' fR'
      clear cR fR S1
      have KC := hide (And.intro cR' fR')
      clear cR' fR'
      by_cases hLO : L ≤ O
      · obtain ⟨Q, rfl⟩ : ∃ Q, O = Q + L := ⟨O - L, by omega⟩
        have hLOz : (L : Int) ≤ (Q : Int) + (L : Int) := by omega
        have eAnd2 : bits .and .u64 (R' : Int) ((M : Int) - 1) = (Q : Int) + (L : Int) := by rw [eAnd]; omega
        clear eAnd
        have HB := hide (bp_step a L M (a + L / 4 * 2 - 1) t r dk Q ht3 (by rw [← HN.out.2, if_pos (by omega)]; omega))
        by_cases hq : p = a + Q
        · subst hq
          rw [show ((a + Q : Nat) : Int) = (a : Int) + (Q : Int) by omega] at hle ⊢
          go_wp2_with (go_at_call 67; refine hNext.mono ?_; rintro e w' ⟨rfl, hw'⟩; obtain rfl : w2 = w' := hw'.symm)
          have esi : ((a : Int) + (Q : Int)).toNat = a + Q := by omega
          have psi : (0 : Int) ≤ (a : Int) + (Q : Int) := by omega
          have bsi : (a : Int) + (Q : Int) < (d.size : Int) := by omega
          have rsi : IntKind.i64.wrap ((a : Int) + (Q : Int)) = (a : Int) + (Q : Int) := by rw [IntKind.wrap_i64]; omega
          have S3 : Hid _ := hide (SWI.swappedK hne KC.out S2.out R (a + Q) (a + Q) (by have := S2z; omega) (by have := S2z; omega))
          obtain ⟨cs1, fs1⟩ := SWI.cell0 S2.out R (hds.out.trans HS.out) (i := a + Q) (by have := S2z; omega)
          obtain ⟨cs1b, fs1b⟩ := SWI.cell1 S2.out R (hds.out.trans HS.out) (i := a + Q) (by have := S2z; omega)
          obtain ⟨cs3, fs3⟩ := SWI.cell0 S2.out R (hds.out.trans HS.out) (i := a + Q) (by have := S2z; omega)
          obtain ⟨cs3b, fs3b⟩ := SWI.cell1 S2.out R (hds.out.trans HS.out) (i := a + Q) (by have := S2z; omega)
          obtain ⟨xs1, hxs1⟩ : ∃ x, x = dk[a + Q]! := ⟨_, rfl⟩
          rw [← hxs1] at S3 cs1 cs1b cs3 cs3b
          clear hxs1
          go_wp2_with fail
          go_big_region_o
          clear cs1 cs1b cs3 cs3b fs1 fs1b fs3 fs3b
          generalize World.drew _ = w3 at S3 ⊢
          have K3 := hide S3.out.2
          have S3 := hide S3.out.1
          go_wp2
          go_roundg (3 - (t + 1))
          case measure => omega
          case rel => exact ⟨t + 1, a + Q + 1, xorNext r, swp dk (a + Q) (a + Q), by congr 1, hide (by have := HP.out; omega), by omega, Nat.le_refl _, hide (by rw [size_swp]; exact hds.out), S3, by rw [← HN.out.1]; exact K3.out.1, K3.out.2, hide (by rw [← HR.out, HB.out, ← HP.out])⟩
        · have hqz : (p : Int) ≠ (a : Int) + (Q : Int) := by omega
          go_wp2_with (go_at_call 67; refine hNext.mono ?_; rintro e w' ⟨rfl, hw'⟩; obtain rfl : w2 = w' := hw'.symm)
          have esi : ((p : Int)).toNat = p := by omega
          have psi : (0 : Int) ≤ (p : Int) := by omega
          have bsi : (p : Int) < (d.size : Int) := by omega
          have rsi : IntKind.i64.wrap ((p : Int)) = (p : Int) := by rw [IntKind.wrap_i64]; omega
          have esj : ((a : Int) + (Q : Int)).toNat = a + Q := by omega
          have psj : (0 : Int) ≤ (a : Int) + (Q : Int) := by omega
          have bsj : (a : Int) + (Q : Int) < (d.size : Int) := by omega
          have rsj : IntKind.i64.wrap ((a : Int) + (Q : Int)) = (a : Int) + (Q : Int) := by rw [IntKind.wrap_i64]; omega
          have S3 : Hid _ := hide (SWI.swappedK hne KC.out S2.out R (p) (a + Q) (by have := S2z; omega) (by have := S2z; omega))
          obtain ⟨cs1, fs1⟩ := SWI.cell0 S2.out R (hds.out.trans HS.out) (i := p) (by have := S2z; omega)
          obtain ⟨cs1b, fs1b⟩ := SWI.cell1 S2.out R (hds.out.trans HS.out) (i := p) (by have := S2z; omega)
          obtain ⟨cs3, fs3⟩ := SWI.cell0 S2.out R (hds.out.trans HS.out) (i := a + Q) (by have := S2z; omega)
          obtain ⟨cs3b, fs3b⟩ := SWI.cell1 S2.out R (hds.out.trans HS.out) (i := a + Q) (by have := S2z; omega)
          obtain ⟨xs1, hxs1⟩ : ∃ x, x = dk[p]! := ⟨_, rfl⟩
          obtain ⟨xs3, hxs3⟩ : ∃ x, x = dk[a + Q]! := ⟨_, rfl⟩
          rw [← hxs1] at S3 cs1 cs1b
          rw [← hxs3] at S3 cs3 cs3b
          clear hxs1 hxs3
          go_wp2_with fail
          go_big_region_o
          clear cs1 cs1b cs3 cs3b fs1 fs1b fs3 fs3b
          generalize World.drew _ = w3 at S3 ⊢
          have K3 := hide S3.out.2
          have S3 := hide S3.out.1
          go_wp2
          go_roundg (3 - (t + 1))
          case measure => omega
          case rel => exact ⟨t + 1, p + 1, xorNext r, swp dk p (a + Q), by congr 1, hide (by have := HP.out; omega), by omega, Nat.le_refl _, hide (by rw [size_swp]; exact hds.out), S3, by rw [← HN.out.1]; exact K3.out.1, K3.out.2, hide (by rw [← HR.out, HB.out, ← HP.out])⟩
      · have hLOz : ¬ (L : Int) ≤ (O : Int) := by omega
        have HB := hide (bp_step a L M (a + L / 4 * 2 - 1) t r dk O ht3 (by rw [← HN.out.2, if_neg (by omega)]))
        by_cases hq : p = a + O
        · subst hq
          rw [show ((a + O : Nat) : Int) = (a : Int) + (O : Int) by omega] at hle ⊢
          go_wp2_with (go_at_call 67; refine hNext.mono ?_; rintro e w' ⟨rfl, hw'⟩; obtain rfl : w2 = w' := hw'.symm)
          have esi : ((a : Int) + (O : Int)).toNat = a + O := by omega
          have psi : (0 : Int) ≤ (a : Int) + (O : Int) := by omega
          have bsi : (a : Int) + (O : Int) < (d.size : Int) := by omega
          have rsi : IntKind.i64.wrap ((a : Int) + (O : Int)) = (a : Int) + (O : Int) := by rw [IntKind.wrap_i64]; omega
          have S3 : Hid _ := hide (SWI.swappedK hne KC.out S2.out R (a + O) (a + O) (by have := S2z; omega) (by have := S2z; omega))
          obtain ⟨cs1, fs1⟩ := SWI.cell0 S2.out R (hds.out.trans HS.out) (i := a + O) (by have := S2z; omega)
          obtain ⟨cs1b, fs1b⟩ := SWI.cell1 S2.out R (hds.out.trans HS.out) (i := a + O) (by have := S2z; omega)
          obtain ⟨cs3, fs3⟩ := SWI.cell0 S2.out R (hds.out.trans HS.out) (i := a + O) (by have := S2z; omega)
          obtain ⟨cs3b, fs3b⟩ := SWI.cell1 S2.out R (hds.out.trans HS.out) (i := a + O) (by have := S2z; omega)
          obtain ⟨xs1, hxs1⟩ : ∃ x, x = dk[a + O]! := ⟨_, rfl⟩
          rw [← hxs1] at S3 cs1 cs1b cs3 cs3b
          clear hxs1
          go_wp2_with fail
          go_big_region_o
          clear cs1 cs1b cs3 cs3b fs1 fs1b fs3 fs3b
          generalize World.drew _ = w3 at S3 ⊢
          have K3 := hide S3.out.2
          have S3 := hide S3.out.1
          go_wp2
          go_roundg (3 - (t + 1))
          case measure => omega
          case rel => exact ⟨t + 1, a + O + 1, xorNext r, swp dk (a + O) (a + O), by congr 1, hide (by have := HP.out; omega), by omega, Nat.le_refl _, hide (by rw [size_swp]; exact hds.out), S3, by rw [← HN.out.1]; exact K3.out.1, K3.out.2, hide (by rw [← HR.out, HB.out, ← HP.out])⟩
        · have hqz : (p : Int) ≠ (a : Int) + (O : Int) := by omega
          go_wp2_with (go_at_call 67; refine hNext.mono ?_; rintro e w' ⟨rfl, hw'⟩; obtain rfl : w2 = w' := hw'.symm)
          have esi : ((p : Int)).toNat = p := by omega
          have psi : (0 : Int) ≤ (p : Int) := by omega
          have bsi : (p : Int) < (d.size : Int) := by omega
          have rsi : IntKind.i64.wrap ((p : Int)) = (p : Int) := by rw [IntKind.wrap_i64]; omega
          have esj : ((a : Int) + (O : Int)).toNat = a + O := by omega
          have psj : (0 : Int) ≤ (a : Int) + (O : Int) := by omega
          have bsj : (a : Int) + (O : Int) < (d.size : Int) := by omega
          have rsj : IntKind.i64.wrap ((a : Int) + (O : Int)) = (a : Int) + (O : Int) := by rw [IntKind.wrap_i64]; omega
          have S3 : Hid _ := hide (SWI.swappedK hne KC.out S2.out R (p) (a + O) (by have := S2z; omega) (by have := S2z; omega))
          obtain ⟨cs1, fs1⟩ := SWI.cell0 S2.out R (hds.out.trans HS.out) (i := p) (by have := S2z; omega)
          obtain ⟨cs1b, fs1b⟩ := SWI.cell1 S2.out R (hds.out.trans HS.out) (i := p) (by have := S2z; omega)
          obtain ⟨cs3, fs3⟩ := SWI.cell0 S2.out R (hds.out.trans HS.out) (i := a + O) (by have := S2z; omega)
          obtain ⟨cs3b, fs3b⟩ := SWI.cell1 S2.out R (hds.out.trans HS.out) (i := a + O) (by have := S2z; omega)
          obtain ⟨xs1, hxs1⟩ : ∃ x, x = dk[p]! := ⟨_, rfl⟩
          obtain ⟨xs3, hxs3⟩ : ∃ x, x = dk[a + O]! := ⟨_, rfl⟩
          rw [← hxs1] at S3 cs1 cs1b
          rw [← hxs3] at S3 cs3 cs3b
          clear hxs1 hxs3
          go_wp2_with fail
          go_big_region_o
          clear cs1 cs1b cs3 cs3b fs1 fs1b fs3 fs3b
          generalize World.drew _ = w3 at S3 ⊢
          have K3 := hide S3.out.2
          have S3 := hide S3.out.1
          go_wp2
          go_roundg (3 - (t + 1))
          case measure => omega
          case rel => exact ⟨t + 1, p + 1, xorNext r, swp dk p (a + O), by congr 1, hide (by have := HP.out; omega), by omega, Nat.le_refl _, hide (by rw [size_swp]; exact hds.out), S3, by rw [← HN.out.1]; exact K3.out.1, K3.out.2, hide (by rw [← HR.out, HB.out, ← HP.out])⟩
    · -- three rounds are done
      obtain rfl : t = 3 := by omega
      have hle := hp4 rfl
      clear hp3 hp4
      go_wp2
      go_end0
      refine ⟨rfl, ?_⟩
      rw [← HR.out]
      exact S1.out

set_option maxHeartbeats 2000000 in
set_option maxRecDepth 1000000 in
theorem breakI (it : α → Int × Int) (cv : Value) (blk off cap a b : Nat) (d0 d : Array α) (w0 w : World) (R : RowK (encI it) 2 w0 blk off d0) (hs : d.size = d0.size) (S : SWK (encI it) 2 w0 blk off d w) (hab : a ≤ b) (hb : b ≤ d.size) (hsz : d.size < 2305843009213693952) :
    Calls Try.prog 47 #[.slice (some ⟨blk, off, none⟩) d.size cap, .int .i64 a, .int .i64 b, cv] w fun e w' => e = .returned (.tuple #[]) ∧ SWK (encI it) 2 w0 blk off (breakPatterns d a b) w' := by
  obtain ⟨L, rfl⟩ : ∃ L, b = a + L := ⟨b - a, by omega⟩
  by_cases h8 : 8 ≤ L
  · exact breakGo it cv blk off cap a L d0 d w0 w R hs S hb hsz h8
  · have hv : breakPatterns d a (a + L) = d := by unfold breakPatterns; simp only [Nat.add_sub_cancel_left]; rw [if_neg h8]
    rw [hv]
    have mixed := mixedI
    have hLz : ((a : Int) + (L : Int) - (a : Int)) = (L : Int) := by omega
    have h8z : ¬ (8 : Int) ≤ (L : Int) := by omega
    have S0 : Hid (SWK (encI it) 2 w0 blk off d w) := S
    clear S
    go_enter Try.func47, Try.ntmps47
    go_wp2
    go_end0
    exact ⟨rfl, S0.out⟩
end Go.Proofs.Ytiocgmeonfanmaa
