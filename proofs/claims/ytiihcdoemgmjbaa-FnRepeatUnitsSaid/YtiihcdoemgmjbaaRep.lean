/-
  slices.Repeat of ints; the reference; impl.Repeat with its deferred function.
-/
import Derived.WalkKit
import Derived.WalkSpells
import Derived.WalkLawsBesides
import Derived.Outline
import Derived.Deep.DeepMust
import Derived.Laws.MakeOwn
import Derived.StillTailTactics
import Derived.Defers
import Derived.Recover
import Derived.Laws.Pointers
import Derived.Laws.CopyOwn
import Derived.Test.YtiihcdoemgmjbaaSpec
import Derived.Test.YtiihcdoemgmjbaaAppR
import Derived.Test.YtiihcdoemgmjbaaShelf
namespace Go.Proofs.Ytiihcdoemgmjbaa
open Go.RowKit
set_option linter.unusedVariables false
set_option linter.unusedSimpArgs false

/-- a list so many times -/
def rep {α : Type} (n : Nat) (l : List α) : List α := (List.replicate n l).flatten
theorem rep_zero {α : Type} (l : List α) : rep 0 l = [] := rfl
theorem rep_add {α : Type} (a b : Nat) (l : List α) : rep (a + b) l = rep a l ++ rep b l := by
  unfold rep; rw [← List.replicate_append_replicate, List.flatten_append]
theorem rep_succ {α : Type} (n : Nat) (l : List α) : rep (n + 1) l = rep n l ++ l := by rw [rep_add]; simp [rep]
theorem rep_length {α : Type} (n : Nat) (l : List α) : (rep n l).length = n * l.length := by
  induction n with
  | zero => simp [rep]
  | succ n ih => rw [rep_succ, List.length_append, ih, Nat.succ_mul]
theorem rep_take_le {α : Type} {a b k : Nat} {l : List α} (h : a ≤ b) (hk : k ≤ a * l.length) : (rep b l).take k = (rep a l).take k := by
  obtain ⟨c, rfl⟩ := Nat.exists_eq_add_of_le h
  rw [rep_add, List.take_append_of_le_length (by rw [rep_length]; exact hk)]
theorem rep_take {α : Type} {a b k : Nat} {l : List α} (ha : k ≤ a * l.length) (hb : k ≤ b * l.length) : (rep a l).take k = (rep b l).take k := by
  rcases Nat.le_total a b with h | h
  · exact (rep_take_le h ha).symm
  · exact rep_take_le h hb
/-- one round of the doubling -/
theorem rep_double {α : Type} {n m k a : Nat} {l : List α} (hm : m = a * l.length) (ha : a ≤ n) (hk : k ≤ m) (hk2 : m + k ≤ n * l.length) : (rep n l).take (m + k) = (rep n l).take m ++ (rep n l).take k := by
  obtain ⟨c, rfl⟩ := Nat.exists_eq_add_of_le ha
  have h1 : (rep (a + c) l).take m = rep a l := by rw [rep_add, List.take_append_of_le_length (by rw [rep_length]; omega), List.take_of_length_le (by rw [rep_length]; omega)]
  have hc : k ≤ c * l.length := by rw [Nat.add_mul] at hk2; omega
  have h2 : (rep (a + c) l).take k = (rep c l).take k := rep_take (by rw [Nat.add_mul]; omega) hc
  rw [h1, h2, rep_add, List.take_append, List.take_of_length_le (by rw [rep_length]; omega), rep_length, ← hm, Nat.add_sub_cancel_left]

theorem rep_map {α β : Type} (f : α → β) (n : Nat) (l : List α) : (rep n l).map f = rep n (l.map f) := by
  unfold rep; rw [List.map_flatten]; simp
/-- the next number of copies -/
theorem rep_next {m N len a cnt : Nat} (hm : m = a * len) (hN : N = cnt * len) (ha : a ≤ cnt) (hlt : m < N) : ∃ k a', k = Nat.min m (N - m) ∧ a' ≤ cnt ∧ m + k = a' * len ∧ m + k ≤ N ∧ k ≤ m := by
  have hl : 0 < len := by rcases Nat.eq_zero_or_pos len with h | h; · subst h; simp at hN; omega
                          · exact h
  by_cases h : m ≤ N - m
  · refine ⟨m, a + a, by simp [Nat.min_def]; omega, ?_, by rw [Nat.add_mul, ← hm], by omega, Nat.le_refl _⟩
    have h1 : (a + a) * len ≤ cnt * len := by rw [Nat.add_mul, ← hm, ← hN]; omega
    exact Nat.le_of_mul_le_mul_right h1 hl
  · exact ⟨N - m, cnt, by simp [Nat.min_def]; omega, Nat.le_refl _, by omega, by omega, by omega⟩
theorem row_cell {w : World} {g : Nat} {cur : List Value} {t : TypeId} (h : w.heap[g]? = some (.cells cur.toArray t (0, 0))) (k : Nat) : ∀ j v, (cur.take k)[j]? = some v → w.cell? ((⟨g, 0, none⟩ : Addr).add j) = some v := by
  intro j v hv
  rw [addr_add, cell_of_row w g (0 + j) cur.toArray t (0, 0) h]
  rw [List.getElem?_take] at hv
  split at hv
  · simpa using hv
  · simp at hv
theorem splice_take {cur C : List Value} {n m k a : Nat} (hc : cur.length = n * C.length) (hm : m = a * C.length) (ha : a ≤ n) (hk : k ≤ m) (hk2 : m + k ≤ n * C.length) (h : cur.take m = (rep n C).take m) :
    (splice cur m (cur.take k)).take (m + k) = (rep n C).take (m + k) := by
  have hl : (cur.take k).length = k := by simp; omega
  have h2 : cur.take k = (rep n C).take k := by
    have := congrArg (List.take k) h
    rwa [List.take_take, List.take_take, Nat.min_eq_left hk] at this
  rw [rep_double hm ha hk hk2, ← h, ← h2]
  unfold splice
  rw [← List.append_assoc, List.take_append_of_le_length (by simp; omega), List.take_of_length_le (by simp; omega)]
theorem run_makeInts (N : Nat) (hN : N * 8 ≤ 140737488351232) (w : World) : (Instr.makeSlice 22 (.int .i64 (N : Int)) (.int .i64 (N : Int))).run Try.prog w =
    .ok (.slice (some ⟨w.heap.size, 0, none⟩) N N) (w.alloc (.cells (madeCells #[.int .i64 0] N) 3)) := by
  obtain ⟨i0, hi, hz0, hz1, hz2⟩ := info_parts infoInt
  have := run_make (P := Try.prog) w 22 3 i0 (.int .i64 0) Try.underlying22 hi hz0 .i64 .i64 (N : Int) (N : Int) (by omega) (Int.le_refl _) (by rw [hz2]; omega) (by omega)
  rw [hz1, show (Value.int .i64 0).cells = #[.int .i64 0] from rfl] at this
  simpa using this

set_option maxRecDepth 100000 in
set_option maxHeartbeats 1000000 in
theorem slicesRepeat (a : Option Addr) (len cap : Nat) (zs : List Int) (cnt N : Nat) (hN : N = cnt * len) (hb : N * 8 ≤ 140737488351232) (hl : len * 8 ≤ 140737488351232) (hcnt : cnt ≤ 9223372036854775807) (w : World) (hI : Rd w w.heap.size 1 a len (ints zs)) :
    Calls Try.prog 35 #[.slice a len cap, .int .i64 cnt] w fun e w' => ∃ g, e = .returned (.slice (some ⟨g, 0, none⟩) N N) ∧ w'.ownsRow w.heap.size 3 1 (.slice (some ⟨g, 0, none⟩) N N) N (ints (rep cnt zs)) ∧ Below w.heap.size w w' := by
  have hzl : zs.length = len := by have := hI.1; simpa using this
  have hmul := Try.bits_Mul len cnt (by omega) (by omega)
  have hpr : len * cnt = N := by rw [hN, Nat.mul_comm]
  rw [hpr] at hmul
  rw [Nat.div_eq_of_lt (by omega), Nat.mod_eq_of_lt (by omega)] at hmul
  have HM := hide hmul
  have HN := hide hN
  clear hmul hpr hN
  have hmk := run_makeInts N hb
  obtain ⟨Z, hZ⟩ : ∃ Z : List Value, madeCells #[.int .i64 0] N = Z.toArray := ⟨(madeCells #[.int .i64 0] N).toList, by simp⟩
  have hZl : Z.length = N := by have := congrArg Array.size hZ; rw [size_madeCells] at this; simpa using this.symm
  simp only [hZ] at hmk
  obtain ⟨C, hC⟩ : ∃ C, ints zs = C := ⟨_, rfl⟩
  have hCl : C.length = len := by rw [← hC]; simpa using hzl
  have hC1 : ∀ v ∈ C, v.oneCell' = true := by rw [← hC]; exact ints_one zs
  rw [hC] at hI
  have HC := hide hC
  have HCL := hide hCl
  have HZL := hide hZl
  clear hZ hC hCl hZl hzl
  obtain ⟨c0, a0, hc0, ha0, hc0a, hc0N⟩ : ∃ c0 a0, c0 = Nat.min len N ∧ a0 ≤ cnt ∧ c0 = a0 * len ∧ c0 ≤ N := by
    rcases Nat.eq_zero_or_pos cnt with h | h
    · exact ⟨0, 0, by rw [HN.out, h]; simp, by omega, by simp, by omega⟩
    · refine ⟨len, 1, ?_, h, by simp, ?_⟩ <;> have : 1 * len ≤ cnt * len := Nat.mul_le_mul_right _ h <;> rw [← HN.out] at this
      · simp [Nat.min_def]; omega
      · omega
  obtain ⟨X0, hX0⟩ : ∃ X0, C.take c0 = X0 := ⟨_, rfl⟩
  have hc0l : c0 ≤ len := by rw [hc0]; exact Nat.min_le_left _ _
  have hX0l : X0.length = c0 := by rw [← hX0, List.length_take, HCL.out]; omega
  have hX01 : ∀ v ∈ X0, v.oneCell' = true := fun v hv => hC1 v (List.mem_of_mem_take (by rw [hX0]; exact hv))
  have hX0s : ∀ ad, a = some ad → ∀ j v, X0[j]? = some v → w.cell? (ad.add j) = some v := by
    intro ad e j v hv
    refine (hI.src ad e) j v ?_
    rw [← hX0, List.getElem?_take] at hv
    split at hv
    · exact hv
    · simp at hv
  have hX0p : 0 < X0.length → ∃ ad, a = some ad := by
    intro h
    obtain ⟨b, off, e, _⟩ := hI.2 (by omega)
    exact ⟨_, e⟩
  have HX0 := hide hX0
  have HX0L := hide hX0l
  have HX01 := hide hX01
  have HX0S2 : Hid (∀ ad, a = some ad → ∀ j v, X0[j]? = some v → (w.alloc (.cells Z.toArray 3)).cell? (ad.add j) = some v) := by
    intro ad e j v hv
    rw [World.cell?_alloc_lt w _ _ (by
      obtain ⟨b, off, e2, hb2, _⟩ := hI.2 (by have := (List.getElem?_eq_some_iff.1 hv).1; omega)
      rw [e] at e2
      injection e2 with e2
      subst e2
      rw [addr_add]
      exact hb2)]
    exact hX0s ad e j v hv
  have HX0P := hide hX0p
  have HC0 := hide hc0
  have HC0A := hide hc0a
  clear hX0 hX0l hX01 hX0s hX0p hc0 hc0a hC1
  have hsz1 : (Try.prog.info? 3).map (·.size) = some 1 := by kernel_rfl
  have hcnn : ¬ ((cnt : Int) < 0) := by omega
  have hgt : ¬ ((9223372036854775807 : Int) < (N : Int)) := by omega
  go_enter Try.func35, Try.ntmps35
  go_wp2_with fail
  refine (HM.out _).mono ?_
  rintro e w' ⟨rfl, hw⟩
  obtain rfl := hw.symm
  clear hw
  have HG0 : Hid ((w.alloc (.cells Z.toArray 3)).heap[w.heap.size]? = some (.cells Z.toArray 3 (0, 0))) := heap_alloc_new w _
  go_wp2_with ((with_reducible refine wpList_copy_splice rfl (.tmp 31) (.tmp 32) 22 22 rfl 3 Try.underlying22 hsz1 _ _ _ _ _ _ rfl rfl w.heap.size 0 Z 3 HG0.out X0 ?hn ?hpos ?hfit HX01.out w.heap.size w ((Below.refl _ w).alloc (Nat.le_refl _) _) (Nat.le_refl _) ?_); rotate_right; intro w2 HG2 hB2)
  case hn => rw [HX0L.out, HC0.out]
  case hpos =>
    intro h
    obtain ⟨ad, e⟩ := HX0P.out h
    first | exact ⟨rfl, ad, e, HX0S2.out ad e⟩ | exact ⟨ad, e, HX0S2.out ad e⟩
  case hfit => rw [HX0L.out, HZL.out]; omega
  go_loopw [8] (fun v wr => ∃ (m a1 : Nat) (cur : List Value), v = .int .i64 (m : Int) ∧ m ≤ N ∧ a1 ≤ cnt ∧ Hid (m = a1 * len) ∧ Hid (cur.length = N) ∧ Hid (cur.take m = (rep cnt C).take m) ∧ Hid (0 < m ∨ N = 0) ∧ Hid (wr.heap[w.heap.size]? = some (.cells cur.toArray 3 (0, 0))) ∧ Below w.heap.size w wr) (fun v _ => N - (intOf v).toNat)
  case atStart =>
    refine ⟨c0, a0, splice Z 0 X0, by rw [← HX0L.out], hc0N, ha0, HC0A, ?_, ?_, ?_, HG2, hB2⟩
    · exact hide (by rw [length_splice _ _ _ (by rw [HX0L.out, HZL.out]; omega), HZL.out])
    · apply hide
      rw [rep_take (b := 1) (by rw [HCL.out, HC0A.out]; exact Nat.mul_le_mul_right _ ha0) (by rw [HCL.out]; omega)]
      have : rep 1 C = C := by simp [rep]
      rw [this, HX0.out]
      unfold splice
      rw [List.take_zero, List.nil_append, List.take_append_of_le_length (by rw [HX0L.out]; exact Nat.le_refl _), List.take_of_length_le (by rw [HX0L.out]; exact Nat.le_refl _)]
    · apply hide
      rcases Nat.eq_zero_or_pos N with h | h
      · exact .inr h
      · left
        have h1 := HC0.out
        have h2 := HN.out
        have h3 : 0 < len := by
          rcases Nat.eq_zero_or_pos len with h4 | h4
          · rw [h4] at h2; simp at h2; omega
          · exact h4
        rw [h1]
        exact Nat.lt_min.2 ⟨h3, h⟩
  case round =>
    obtain ⟨m, a1, cur, rfl, hmN, ha1, hma, hcl, htk, hpos, HG, hB⟩ := hrel
    by_cases hlt : m < N
    · obtain ⟨k, a2, hk, ha2, hka, hkN, hkm⟩ := rep_next hma.out HN.out ha1 hlt
      have HK := hide hk
      have HKA := hide hka
      clear hk hka
      obtain ⟨Y, hY⟩ : ∃ Y, cur.take k = Y := ⟨_, rfl⟩
      have hYl : Y.length = k := by rw [← hY, List.length_take, hcl.out]; omega
      have hcur1 : ∀ v ∈ cur.take m, v.oneCell' = true := by
        rw [htk.out, ← HC.out, ← rep_map]
        intro v hv
        exact ints_one _ v (List.mem_of_mem_take hv)
      have hY1 : ∀ v ∈ Y, v.oneCell' = true := fun v hv => hcur1 v (by
        rw [← hY] at hv
        have : cur.take k = (cur.take m).take k := by rw [List.take_take, Nat.min_eq_left hkm]
        rw [this] at hv
        exact List.mem_of_mem_take hv)
      have hYs : ∀ j v, Y[j]? = some v → wr.drew.cell? ((⟨w.heap.size, 0, none⟩ : Addr).add j) = some v := by
        rw [← hY]; exact row_cell HG.out k
      have htk2 : (splice cur m Y).take (m + k) = (rep cnt C).take (m + k) := by
        rw [← hY]
        exact splice_take (by rw [hcl.out, HCL.out, HN.out]) (by rw [HCL.out]; exact hma.out) ha1 hkm (by rw [HCL.out, ← HN.out]; exact hkN) htk.out
      have hsl : (splice cur m Y).length = N := by rw [length_splice _ _ _ (by rw [hYl, hcl.out]; exact hkN), hcl.out]
      have HYL := hide hYl
      have HY1 := hide hY1
      have HYS := hide hYs
      have HT2 := hide htk2
      have HSL := hide hsl
      have HGd : Hid (wr.drew.heap[w.heap.size]? = some (.cells cur.toArray 3 (0, 0))) := HG
      have HBd : Below w.heap.size w wr.drew := hB.drew
      clear hY hYl hcur1 hY1 hYs htk2 hsl
      have hlti : (m : Int) < (N : Int) := by omega
      have hle : (m : Int) ≤ (N : Int) := by omega
      have hne : ¬ (N = m) := by omega
      have hcl2 := hcl
      go_wp2_with fail
      have hpos2 : 0 < Y.length → some (⟨w.heap.size, m, none⟩ : Addr) = some ⟨w.heap.size, m, none⟩ ∧ ∃ ad, some (⟨w.heap.size, 0, none⟩ : Addr) = some ad ∧ ∀ j v, Y[j]? = some v → wr.drew.cell? (ad.add j) = some v := fun _ => ⟨rfl, _, rfl, HYS.out⟩
      go_region_law (refine step_copy_splice rfl (.tmp 41) (.tmp 44) 22 22 rfl 3 Try.underlying22 hsz1 (some ⟨w.heap.size, m, none⟩) (some ⟨w.heap.size, 0, none⟩) (N - m) (N - m) m N (by simp [Act.eval, Act.put]) (by simp [Act.eval, Act.put]) w.heap.size m cur 3 HGd.out Y (by rw [HYL.out, HK.out]) hpos2 (by rw [HYL.out, hcl.out]; exact hkN) HY1.out w.heap.size w HBd (Nat.le_refl _) ?_; intro w3 HG3 hB3)
      have hwy : (Y.length : Int) = (k : Int) := by rw [HYL.out]
      have hkp : 0 < k := by
        have h1 := HK.out
        rcases hpos.out with h | h
        · rw [h1]; exact Nat.lt_min.2 ⟨h, by omega⟩
        · omega
      have hwk : IntKind.i64.wrap ((m : Int) + (k : Int)) = ((m + k : Nat) : Int) := by rw [IntWalk.i64_in _ (by omega)]; omega
      go_wp2
      go_roundw
      case rel => exact ⟨m + k, by omega, hkN, a2, ha2, HKA, splice cur m Y, HSL, HT2, hide (.inl (by omega)), HG3⟩
      case measure => first | (simp [intOf]; omega) | (simp [intOf, hwk]; omega)
    · obtain rfl : m = N := by omega
      have hown : wr.ownsRow w.heap.size 3 1 (.slice (some ⟨w.heap.size, 0, none⟩) m m) m (ints (rep cnt zs)) := by
        have h1 := htk.out
        have h2 : (rep cnt C).length = m := by rw [rep_length, HCL.out, ← HN.out]
        rw [List.take_of_length_le (by rw [hcl.out]; exact Nat.le_refl _), List.take_of_length_le (by omega)] at h1
        have h3 := HG.out
        rw [h1, ← HC.out, ← rep_map] at h3
        exact ⟨by have := h2; rw [← HC.out, ← rep_map] at this; simpa using this, .inr ⟨w.heap.size, m, _, rfl, Nat.le_refl _, h3, Nat.le_refl _, by unfold maxLen; omega, by have := h2; rw [← HC.out, ← rep_map] at this; simpa using this, by have := h2; rw [← HC.out, ← rep_map] at this; rw [List.take_of_length_le (by simpa using Nat.le_of_eq this)]⟩⟩
      have HO := hide hown
      clear hown
      go_wp2
      go_ret
      exact ⟨w.heap.size, rfl, HO.out, hB⟩
end Go.Proofs.Ytiihcdoemgmjbaa
