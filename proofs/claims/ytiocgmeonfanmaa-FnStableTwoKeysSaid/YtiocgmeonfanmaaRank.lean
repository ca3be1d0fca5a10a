/-
  laws.items and laws.ranked: items that bear their index; the order of the indices by rank.
-/
import Derived.Test.YtiocgmeonfanmaaSpI
import Derived.Test.YtiocgmeonfanmaaItM
namespace Go.Proofs.Ytiocgmeonfanmaa
open Go.RowKit
set_option linter.unusedVariables false
set_option linter.unusedSimpArgs false

/-- each number with its index for a key -/
def idxItems (zs : List Int) : List (Int × Int) := (List.range zs.length).map fun (i : Nat) => ((i : Int), zs[i]?.getD 0)
theorem idxItems_length (zs : List Int) : (idxItems zs).length = zs.length := by simp [idxItems]
theorem idxItems_at {zs : List Int} {k : Nat} {x : Int} (h : zs[k]? = some x) : (idxItems zs)[k]? = some ((k : Int), x) := by
  have hk := (List.getElem?_eq_some_iff.1 h).1
  have hv := (List.getElem?_eq_some_iff.1 h).2
  simp [idxItems, hk, hv]
set_option maxRecDepth 100000 in
set_option maxHeartbeats 2000000 in
theorem lawsItems (A : Option Addr) (n c B : Nat) (l : List Int) (w : World) (hI : Rd w B 1 A n (ints l)) (hB0 : B ≤ w.heap.size) (hreach : n * 16 ≤ 140737488351232) :
    Calls Try.prog 21 #[.slice A n c] w fun e w' => ∃ A' c', e = .returned (.slice A' n c') ∧ w'.ownsRow w.heap.size 36 2 (.slice A' n c') n (pairs (idxItems l)) ∧ Below w.heap.size w w' := by
  have hl : l.length = n := by have := hI.1; simpa using this
  subst hl
  replace hI := hI.more hB0
  obtain ⟨i0, hi, hz0, hz1, hz2⟩ := info_parts infolawsIItems
  go_enter Try.func21, Try.ntmps21
  go_wp2
  go_loopw [3, 8] (fun v i wr => ∃ k : Nat, k ≤ l.length ∧ i = .int .i64 k ∧ wr.ownsRow w.heap.size 36 2 v k (pairs ((idxItems l).take k)) ∧ Below w.heap.size w wr) (fun _ i _ => l.length - (RowKit.intOf i).toNat)
  case atStart => exact ⟨0, Nat.zero_le _, rfl, World.ownsRow_nil _ _ _ _, Below.refl _ _⟩
  case round =>
    obtain ⟨k, hk, rfl, hown, hB⟩ := hrel
    have hsz := hB.size
    by_cases hlt : k < l.length
    · obtain ⟨b, off, x, rfl, hb, hx, hc1⟩ := (hI.below hB).intx hlt
      obtain ⟨A', c', rfl⟩ := own_slice hown
      go_wp2_with (at_builtin; go_must (refine wpList_append_own _ rfl _ _ 22 rfl w.heap.size 36 i0 (.agg #[.int .i64 0, .int .i64 0]) 2 16 Try.underlying22 hi hz0 hz1 hz2 rfl (by decide) _ _ _ rfl (hown.alloc _) ⟨wr.heap.size, 0, none⟩ 1 1 [.int .i64 (k : Int), .int .i64 x] rfl rfl (cell_two_at _ _ (by simp) _ _ _) (by simp [Value.oneCell']) (by unfold maxLen; omega) (by omega) (by simp; omega) ?_); intro v' w2 hown' hgrow _)
      have hb2 := below_append hB hsz (Nat.le_refl _) hown hgrow
      go_roundw
      case rel => exact ⟨k + 1, by omega, by go_num, by rw [take_snoc' (idxItems_at hx.out), pairs_append, pairs_one]; exact hown', hb2⟩
      case measure => simp [RowKit.intOf]; omega
    · obtain rfl : k = l.length := by omega
      obtain ⟨A', c', rfl⟩ := own_slice hown
      rw [List.take_of_length_le (by rw [idxItems_length]; exact Nat.le_refl _)] at hown
      go_wp2
      go_ret
      exact ⟨_, _, rfl, hown, hB⟩
/-! ### the table of an order by rank -/
def rkI (a b : Int) : Int := if a < b then -1 else if b < a then 1 else 0
/-- the table's rows of the first i -/
def rkPre (zs : List Int) (i : Nat) : List Int := (zs.take i).flatMap fun a => zs.map (rkI a)
theorem rkPre_succ {zs : List Int} {i : Nat} {a : Int} (h : zs[i]? = some a) : rkPre zs (i + 1) = rkPre zs i ++ zs.map (rkI a) := by
  unfold rkPre; rw [take_snoc' h]; simp
theorem rkPre_length (zs : List Int) {i : Nat} (h : i ≤ zs.length) : (rkPre zs i).length = i * zs.length := by
  induction i with
  | zero => simp [rkPre]
  | succ i ih =>
    have hx : zs[i]? = some zs[i] := by simp [show i < zs.length by omega]
    rw [rkPre_succ hx, List.length_append, ih (by omega), List.length_map, Nat.add_mul, Nat.one_mul]
theorem rkPre_at (zs : List Int) {n i j : Nat} {a b : Int} (hn : i < n) (hl : n ≤ zs.length) (ha : zs[i]? = some a) (hb : zs[j]? = some b) : (rkPre zs n)[zs.length * i + j]? = some (rkI a b) := by
  have hj := (List.getElem?_eq_some_iff.1 hb).1
  induction n with
  | zero => omega
  | succ n ih =>
    have hx : zs[n]? = some zs[n] := by simp [show n < zs.length by omega]
    rw [rkPre_succ hx]
    have hlen := rkPre_length zs (i := n) (by omega)
    have hm : zs.length * n = n * zs.length := Nat.mul_comm _ _
    by_cases e : i = n
    · subst e
      rw [List.getElem?_append_right (by rw [hlen, ← hm]; omega), hlen, ← hm, Nat.add_sub_cancel_left, List.getElem?_map, hb]
      rw [hx] at ha
      cases ha
      rfl
    · have hlt : i < n := by omega
      have : zs.length * i + j < n * zs.length := by
        have h1 : zs.length * (i + 1) ≤ zs.length * n := Nat.mul_le_mul_left _ hlt
        rw [Nat.mul_add, Nat.mul_one] at h1
        omega
      rw [List.getElem?_append_left (by rw [hlen]; exact this)]
      exact ih hlt (by omega)
/-- how the order made of ranks compares two indices -/
theorem cmp_ranked {zs : List Int} (hn : zs.length ≤ 4096) {i j : Nat} {a b : Int} (ha : zs[i]? = some a) (hb : zs[j]? = some b) : cmpO zs.length (rkPre zs zs.length) i j = rkI a b := by
  have hi := (List.getElem?_eq_some_iff.1 ha).1
  have hj := (List.getElem?_eq_some_iff.1 hb).1
  have hlen := rkPre_length zs (Nat.le_refl _)
  have hle : zs.length ≤ zs.length * zs.length := Nat.le_mul_of_pos_left _ (by omega)
  unfold cmpO
  rw [if_neg (by rw [hlen]; omega)]
  have e : ((zs.length : Int) * (i : Int) + (j : Int)).toNat = zs.length * i + j := by
    have : ((zs.length : Int) * (i : Int) + (j : Int)) = ((zs.length * i + j : Nat) : Int) := by push_cast; rfl
    rw [this]; exact Int.toNat_natCast _
  rw [e, rkPre_at zs hi (Nat.le_refl _) ha hb]
  rfl
theorem Boxed2.not_row {W : World} {B : Nat} {t e : TypeId} {u v x : Value} {base sz n : Nat} {xs : List Value} (h : Boxed2 W B t u v) (hte : t ≠ e) (hrow : W.ownsRow base e sz x n xs) : some B ≠ x.ownBlock := by
  intro hb
  rcases hrow.2 with ⟨hv, _⟩ | ⟨g, cap, cur, hv, _, hg, _⟩
  · rw [hv] at hb; cases hb
  · rw [hv] at hb
    simp [Value.ownBlock] at hb
    subst hb
    rw [show W.heap[B]? = _ from h] at hg
    simp at hg
    exact hte hg.2
theorem grownBy_set1 (W : World) (B j : Nat) (u : Value) : W.grownBy (W.setCell ⟨B, j, none⟩ u) (some B) :=
  ⟨rfl, rfl, rfl, by simp, fun k _ hk => heap_setCell_other W ⟨B, j, none⟩ k u (fun e => hk (by simp [e]))⟩
theorem Boxed2.set1 {W : World} {B : Nat} {t : TypeId} {u v : Value} (h : Boxed2 W B t u v) (v' : Value) : Boxed2 (W.setCell ⟨B, 1, none⟩ v') B t u v' := by
  have := heap_setCell_same W B 1 #[u, v] t v' h
  simpa [Boxed2] using this
theorem Boxed2.set0 {W : World} {B : Nat} {t : TypeId} {u v : Value} (h : Boxed2 W B t u v) (u' : Value) : Boxed2 (W.setCell ⟨B, 0, none⟩ u') B t u' v := by
  have := heap_setCell_same W B 0 #[u, v] t u' h
  simpa [Boxed2] using this
theorem Boxed2.kept {W W' : World} {B : Nat} {t : TypeId} {u v : Value} {row : Option Nat} (h : Boxed2 W B t u v) (hg : W.grownBy W' row) (hne : some B ≠ row) : Boxed2 W' B t u v :=
  (hg.block B (Array.getElem?_eq_some_iff.1 h).1 hne).trans h
theorem Boxed2.lt {W : World} {B : Nat} {t : TypeId} {u v : Value} (h : Boxed2 W B t u v) : B < W.heap.size := (Array.getElem?_eq_some_iff.1 h).1
theorem Boxed2.frozen {W : World} {B j : Nat} {t : TypeId} {u v : Value} (h : Boxed2 W B t u v) : W.frozen? ⟨B, j, none⟩ = false := by simp [World.frozen?, show W.heap[B]? = _ from h]
end Go.Proofs.Ytiocgmeonfanmaa
