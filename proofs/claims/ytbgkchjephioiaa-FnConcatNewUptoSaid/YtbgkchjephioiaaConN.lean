/-
  impl.ConcatNew and equals of two slices of slices.
-/
import Derived.WalkKit
import Derived.WalkSpells
import Derived.WalkLawsBesides
import Derived.Outline
import Derived.Deep.DeepMust
import Derived.Deep.QuietTactic
import Derived.BigQuiet
import Derived.Laws.MakeOwn
import Derived.Test.YtbgkchjephioiaaCon
namespace Go.Proofs.Ytbgkchjephioiaa
open Go.RowKit
set_option linter.unusedVariables false
set_option linter.unusedSimpArgs false

set_option maxHeartbeats 2000000 in
/-- equals, of two lists of lists that are one -/
theorem equalsT (A A' : Option Addr) (n c c' B B' : Nat) (rs rs' : List (Option Addr × Nat × Nat)) (zz : List (List Int)) (w : World) (hx : Rd w B 1 A n (rows rs)) (hxq : RowsRd w B rs zz) (hy : Rd w B' 1 A' n (rows rs')) (hyq : RowsRd w B' rs' zz) (hn : n ≤ 9223372036854775807) (hl : ∀ z ∈ zz, z.length ≤ 9223372036854775807) :
    Calls Try.prog 34 #[.slice A n c, .slice A' n c'] w fun e w' => e = .returned (.bool true) ∧ Drew w w' := by
  have HL := hide hl
  clear hl
  have hnn : ((n : Int) != (n : Int)) = false := by simp
  go_enter Try.func34, Try.ntmps34
  go_wp2
  go_loopw [13] (fun i wr => ∃ k : Nat, k ≤ n ∧ i = .int .i64 k ∧ Drew w wr) (fun i _ => n - (intOf i).toNat)
  case atStart => exact ⟨0, Nat.zero_le _, rfl, Drew.refl _⟩
  case round =>
    obtain ⟨k, hk, rfl, hdr⟩ := hrel
    by_cases hlt : k < n
    · obtain ⟨b, off, X, m, d, z, rfl, hb, hrk, hzk, hcx, hrx⟩ := (hxq.ofDrew hdr).at_ (hx.ofDrew hdr) hlt
      obtain ⟨b', off', Y, m', d', z', rfl, hb', hrk', hzk', hcy, hry⟩ := (hyq.ofDrew hdr).at_ (hy.ofDrew hdr) hlt
      obtain rfl : z = z' := by have h1 := hzk.out; rw [hzk'.out] at h1; exact (Option.some.inj h1).symm
      have hm : m ≤ 9223372036854775807 := by
        have h1 := hrx.1
        have h2 := HL.out z (List.mem_of_getElem? hzk.out)
        simp [ints] at h1; omega
      have hki : (k : Int) < (n : Int) := by omega
      go_wp2
      go_quiet ((go_at_call 23; exact Calls.quiet_of (equalIntT X Y m m' d d' B B' z _ hrx hry hm)))
      go_wp2
      go_roundw
      case rel => exact ⟨k + 1, by omega, by simp, hdr.drewN _⟩
      case measure => simp [intOf]; omega
    · obtain rfl : k = n := by omega
      go_wp2
      go_ret
      exact ⟨rfl, hdr⟩
theorem cell_ex {w : World} {g k : Nat} {cs : List Value} {t : TypeId} (h : w.heap[g]? = some (.cells cs.toArray t (0, 0))) (hk : k < cs.length) : ∃ u, w.cell? ⟨g, k, none⟩ = some u :=
  ⟨cs[k], by rw [cell_of_row w g k _ t _ h]; simp [hk]⟩
theorem frozen_zero {w : World} {g : Nat} {cs : Array Value} {t : TypeId} (h : w.heap[g]? = some (.cells cs t (0, 0))) (k : Nat) : w.frozen? ⟨g, k, none⟩ = false := by simp [World.frozen?, h]
theorem rd_of_block {w : World} {g n : Nat} {cs : List Value} {t : TypeId} (h : w.heap[g]? = some (.cells cs.toArray t (0, 0))) (hn : cs.length = n) : Rd w w.heap.size 1 (some ⟨g, 0, none⟩) n cs :=
  ⟨by simp [hn], fun _ => ⟨g, 0, rfl, (Array.getElem?_eq_some_iff.1 h).1, fun j u hu => by rw [cell_of_row w g (0 + j) _ t _ h]; simpa using hu⟩⟩
theorem own_some {w : World} {base : Nat} {e : TypeId} {sz : Nat} {v : Value} {n : Nat} {xs : List Value} (h : w.ownsRow base e sz v n xs) (hn : 0 < n) : ∃ g cap, v = .slice (some ⟨g, 0, none⟩) n cap ∧ base ≤ g := by
  rcases h.2 with ⟨_, h0⟩ | ⟨g, cap, cur, hv, hb, _⟩
  · omega
  · exact ⟨g, cap, hv, hb⟩
/-- rows of the call's own -/
def RowsOwn (w : World) (base : Nat) (rs : List (Option Addr × Nat × Nat)) (zz : List (List Int)) : Prop :=
  rs.length = zz.length ∧ ∀ (i : Nat) (r : Option Addr × Nat × Nat) (z : List Int), rs[i]? = some r → zz[i]? = some z → w.ownsRow base 3 1 (.slice r.1 r.2.1 r.2.2) r.2.1 (ints z)
theorem own_below {w w' : World} {base : Nat} {e : TypeId} {sz : Nat} {v : Value} {n : Nat} {xs : List Value} (h : w.ownsRow base e sz v n xs) (hb : Below w.heap.size w w') : w'.ownsRow base e sz v n xs :=
  ⟨h.1, h.2.imp id fun ⟨g, cap, cur, e1, e2, e3, e4⟩ => ⟨g, cap, cur, e1, e2, (hb.block g (Array.getElem?_eq_some_iff.1 e3).1).trans e3, e4⟩⟩
theorem RowsOwn.map {w w' : World} {base : Nat} {rs : List (Option Addr × Nat × Nat)} {zz : List (List Int)} (h : RowsOwn w base rs zz) (hk : ∀ v n xs, w.ownsRow base 3 1 v n xs → w'.ownsRow base 3 1 v n xs) : RowsOwn w' base rs zz := ⟨h.1, fun i r z h1 h2 => hk _ _ _ (h.2 i r z h1 h2)⟩
theorem RowsOwn.rd {w : World} {base : Nat} {rs : List (Option Addr × Nat × Nat)} {zz : List (List Int)} (h : RowsOwn w base rs zz) : RowsRd w w.heap.size rs zz := ⟨h.1, fun i r z h1 h2 => Rd.of_own (h.2 i r z h1 h2)⟩
theorem RowsOwn.snoc {w : World} {base k : Nat} {rs : List (Option Addr × Nat × Nat)} {zz : List (List Int)} {z : List Int} {A : Option Addr} {m c : Nat} (h : RowsOwn w base rs (zz.take k)) (hz : zz[k]? = some z) (hr : w.ownsRow base 3 1 (.slice A m c) m (ints z)) : RowsOwn w base (rs ++ [(A, m, c)]) (zz.take (k + 1)) := by
  rw [take_snoc' hz]
  refine ⟨by simp [h.1], fun i r z' h1 h2 => ?_⟩
  by_cases hi : i < rs.length
  · rw [List.getElem?_append_left hi] at h1
    rw [List.getElem?_append_left (by rw [← h.1]; exact hi)] at h2
    exact h.2 i r z' h1 h2
  · have hi' : i = rs.length := by
      have := (List.getElem?_eq_some_iff.1 h1).1
      simp at this; omega
    subst hi'
    rw [List.getElem?_append_right (Nat.le_refl _)] at h1
    rw [h.1, List.getElem?_append_right (Nat.le_refl _)] at h2
    simp at h1 h2
    subst h1; subst h2
    exact hr
theorem infoSl : (Try.prog.info? 22).map (fun i => (i.zero, i.size, i.bytes)) = some (some (.slice none 0 0), 1, 24) := by kernel_rfl
theorem set_rows (rs : List (Option Addr × Nat × Nat)) (n : Nat) (h : rs.length < n) (A : Option Addr) (m c : Nat) :
    (rows rs ++ List.replicate (n - rs.length) (Value.slice none 0 0)).toArray.setIfInBounds rs.length (.slice A m c) = (rows (rs ++ [(A, m, c)]) ++ List.replicate (n - (rs.length + 1)) (Value.slice none 0 0)).toArray := by
  apply Array.toList_inj.1
  simp only [Array.toList_setIfInBounds]
  rw [show n - rs.length = (n - (rs.length + 1)) + 1 by omega, List.replicate_succ]
  rw [show rs.length = (rows rs).length by simp [rows], List.set_append_right _ _ (Nat.le_refl _)]
  simp [rows]
theorem heap_setCell_at {w : World} {g : Nat} {cs : Array Value} {t : TypeId} (h : w.heap[g]? = some (.cells cs t (0, 0))) (i : Nat) (u : Value) : (w.setCell ⟨g, i, none⟩ u).heap[g]? = some (.cells (cs.setIfInBounds i u) t (0, 0)) := by
  simp [World.setCell, Array.getElem?_modify, h]

set_option maxRecDepth 100000 in
set_option maxHeartbeats 4000000 in
theorem implConcatNew (a : Option Addr) (n c : Nat) (rs : List (Option Addr × Nat × Nat)) (zz : List (List Int)) (x : Int) (hn : n ≤ 4194304) (hb : zz.flatten.length * 8 ≤ 140737488351232) (w : World) (hr : Rd w w.heap.size 1 a n (rows rs)) (hq : RowsRd w w.heap.size rs zz) :
    Calls Try.prog 35 #[.slice a n c, .int .i64 x] w fun e w' => ∃ rs', e = .returned (.slice (some ⟨w.heap.size, 0, none⟩) n n) ∧ Rd w' w'.heap.size 1 (some ⟨w.heap.size, 0, none⟩) n (rows rs') ∧ RowsRd w' w'.heap.size rs' zz ∧ Below w.heap.size w w' := by
  have hrl : zz.length = n := by have h1 := hr.1; have h2 := hq.1; rw [rows_length] at h1; omega
  have hzl : ∀ (k : Nat) (z : List Int), zz[k]? = some z → z.length * 8 ≤ 140737488351232 := fun k z hz => by
    have h1 := flatten_take_le zz (k + 1)
    rw [flatten_snoc hz, List.length_append] at h1
    omega
  have HL := hide hrl
  have HZL := hide hzl
  clear hrl hzl
  obtain ⟨i0, hi, hz0, hz1, hz2⟩ := info_parts infoInt
  obtain ⟨j0, hj, hy0, hy1, hy2⟩ := info_parts infoSl
  have hmk : ∀ W : World, (Instr.makeSlice 44 (.int .i64 (n : Int)) (.int .i64 (n : Int))).run Try.prog W = .ok (.slice (some ⟨W.heap.size, 0, none⟩) n n) (W.alloc (.cells (Array.replicate n (Value.slice none 0 0)) 22)) := fun W => by
    have h := run_make (P := Try.prog) W 44 22 j0 (.slice none 0 0) Try.underlying44 hj hy0 .i64 .i64 (n : Int) (n : Int) (by omega) (by omega) (by rw [hy2]; omega) (by omega)
    have e2 : madeCells #[Value.slice none 0 0] n = Array.replicate n (Value.slice none 0 0) := by apply Array.toList_inj.1; rw [toList_madeCells_one]; simp
    rw [Int.toNat_natCast, hy1] at h
    simpa [Value.cells, e2] using h
  go_enter Try.func35, Try.ntmps35
  go_wp2_with fail
  go_loopw [15] (fun i wr => ∃ (k : Nat) (rs' : List (Option Addr × Nat × Nat)), k ≤ n ∧ i = .int .i64 k ∧ Hid (rs'.length = k) ∧ Hid (wr.heap[w.heap.size]? = some (.cells (rows rs' ++ List.replicate (n - k) (Value.slice none 0 0)).toArray 22 (0, 0))) ∧ RowsOwn wr (w.heap.size + 1) rs' (zz.take k) ∧ w.heap.size + 1 ≤ wr.heap.size ∧ Below w.heap.size w wr) (fun i _ => n - (intOf i).toNat)
  case atStart =>
    refine ⟨0, [], Nat.zero_le _, rfl, rfl, ?_, ⟨by simp, by simp⟩, by simp, (Below.refl _ w).alloc (Nat.le_refl _) _⟩
    show _ = _
    rw [heap_alloc_new]
    simp [rows]
  case round =>
    obtain ⟨k, rs', hk, rfl, hrs', hblk, hown, hsz, hB⟩ := hrel
    by_cases hlt : k < n
    · obtain ⟨b, off, A', m, c', z, rfl, hbb, hrk, hzk, hcell, hrd⟩ := (hq.below hB).at_ (hr.below hB) hlt
      have hm8 : m * 8 ≤ 140737488351232 := by have h1 := HZL.out k z hzk.out; have h2 := hrd.1; simp [ints] at h2; omega
      go_wp2_with (at_builtin; go_must (refine wpList_append_rd _ rfl _ _ 22 rfl (w.heap.size + 1) 3 i0 (.int .i64 0) 1 8 Try.underlying22 hi hz0 hz1 hz2 rfl (by decide) (.slice none 0 0) 0 [] rfl (World.ownsRow_nil _ _ _ _) w.heap.size A' m c' _ rfl hrd (ints_one _) (by unfold maxLen; omega) (by omega) hsz ?_); intro v2 w2 own2 hg2 hn2; clear hn2; simp only [Nat.zero_add, List.nil_append] at own2; obtain ⟨A2, c2, rfl⟩ := own_slice own2; have hblk2 := (hg2.block w.heap.size (by omega) (by simp [Value.ownBlock])).trans hblk.out; have HB2 := hide hblk2; clear hblk2; have hcell2 : ∃ u, w2.cell? ⟨w.heap.size, k, none⟩ = some u := cell_ex HB2.out (by have := hrs'.out; simp [rows]; omega); have hfr2 : w2.frozen? ⟨w.heap.size, k, none⟩ = false := frozen_zero HB2.out k; obtain ⟨u2, hu2⟩ := hcell2)
      have hgs := hg2.size
      go_roundw
      case rel =>
        refine ⟨k + 1, rs' ++ [(A2, m, c2)], by omega, by go_num, by have := hrs'.out; simp [Hid, this], ?_, ?_, by simp [World.setCell]; omega, ?_⟩
        · show _ = _
          rw [heap_setCell_at HB2.out]
          have h := set_rows rs' n (by have := hrs'.out; omega) A2 m c2
          rw [hrs'.out] at h
          rw [h]
        · refine RowsOwn.map (RowsOwn.snoc (hown.map fun v n xs h => h.kept hg2 (by simp [Value.ownBlock]; exact Decidable.em _)) hzk.out own2) fun v n xs h => ownsRow_setCell_below h (by simp) _
        · exact (hB.grown hg2 (by omega) (by simp [Value.ownBlock])).setCell (p := ⟨w.heap.size, k, none⟩) (Nat.le_refl _) _
      case measure => simp [intOf]; omega
    · obtain rfl : k = n := by omega
      rw [List.take_of_length_le (by rw [HL.out]; exact Nat.le_refl _)] at hown
      have hblk2 := hblk.out
      simp only [Nat.sub_self, List.replicate_zero, List.append_nil] at hblk2
      have hsl : Rd wr wr.heap.size 1 (some ⟨w.heap.size, 0, none⟩) k (rows rs') := rd_of_block hblk2 (by rw [rows_length]; exact hrs'.out)
      have hrr := hown.rd
      have hsz0 := hB.size
      have hcc := slicesConcat (some ⟨w.heap.size, 0, none⟩) k k rs' zz hn hb wr hsl hrr
      obtain ⟨N, hN⟩ : ∃ N, zz.flatten.length = N := ⟨_, rfl⟩
      rw [hN] at hcc hb
      have HC := hide hcc
      clear hcc hN hblk2 hblk
      go_wp2_with fail
      refine (unhide HC).mono ?_
      rintro e w3 ⟨A3, c3, rfl, own3, _, hb3⟩
      obtain ⟨w0, hw0⟩ : ∃ w0 : World, w0 = wr := ⟨_, rfl⟩
      rw [← hw0] at own3 hb3 hsl hrr hown hB hsz hsz0
      clear hw0 HC
      go_wp2
      go_loopw [30] (fun i wr2 => ∃ (j : Nat) (cs : List Value), j ≤ N ∧ i = .int .i64 j ∧ wr2.ownsRow w0.heap.size 3 1 (.slice A3 N c3) N cs ∧ Below w0.heap.size w0 wr2) (fun i _ => N - (intOf i).toNat)
      case atStart => exact ⟨0, _, Nat.zero_le _, rfl, own3, hb3⟩
      case round =>
        obtain ⟨j, cs, hj, rfl, hownj, hBj⟩ := hrel
        clear own3 hb3
        by_cases hlt2 : j < N
        · obtain ⟨g, cap, hv, hgb⟩ := own_some hownj (by omega)
          obtain ⟨rfl, rfl⟩ : A3 = some ⟨g, 0, none⟩ ∧ c3 = cap := by injection hv with h1 h2 h3; exact ⟨h1, h3⟩
          have hcj := hownj.cellAt j (by omega)
          have hfj := hownj.frozenAt j
          obtain ⟨u, hu⟩ : ∃ u, cs[j]? = some u := ⟨cs[j]'(by have := hownj.1; omega), List.getElem?_eq_getElem _⟩
          rw [hu] at hcj
          have hst := hownj.stored j (.int .i64 x)
          have HST := hide hst
          have HU := hide hu
          clear hst hu hv
          go_wp2
          go_roundw
          case rel => exact ⟨j + 1, _, by omega, by go_num, HST.out.1, hBj.setCell (p := ⟨g, j, none⟩) hgb _⟩
          case measure => simp [intOf]; omega
        · obtain rfl : j = N := by omega
          have hsz4 := hBj.size
          go_wp2
          go_ret
          exact ⟨rs', rfl, (hsl.below hBj).more hsz4, (hrr.below hBj).more hsz4, hB.trans (hBj.mono hsz0)⟩
end Go.Proofs.Ytbgkchjephioiaa
