/-
  impl.MapCollect and impl.MapInsert; laws.different and laws.joined of entries.
-/
import Derived.Test.YtcgcfenenkdhlaaMapE
import Derived.Test.YtcgcfenenkdhlaaTabL
namespace Go.Proofs.Ytcgcfenenkdhlaa
open Go.RowKit Go.Maps Go.Sort Go.Shelf
set_option linter.unusedVariables false
set_option linter.unusedSimpArgs false

theorem kl_key (x : Int) : WideAt.IsKeyLit (kl x) := by unfold kl; first | trivial | exact Or.inl ⟨_, _, rfl⟩ | simp [WideAt.IsKeyLit]
theorem tidy_from {D : DW} (h : Tidy D) (l : List (Int × Int)) : Tidy (mpFrom D l) := by
  induction l using snocInd with
  | nil => simpa [mpFrom] using h
  | snoc l e ih => rw [mpFrom_snoc]; exact ih.put (kl_key _) _
theorem size_from {D : DW} (h : Tidy D) (l : List (Int × Int)) : Maps.size (mpFrom D l) ≤ Maps.size D + l.length := by
  induction l using snocInd with
  | nil => simp [mpFrom]
  | snoc l e ih =>
    rw [mpFrom_snoc, size_put (tidy_from h l)]
    rw [List.length_append, List.length_singleton]
    split <;> omega
theorem size_mp (l : List (Int × Int)) : Maps.size (mp l) ≤ l.length := by
  have := size_from (D := (.map [] : DW)) tidy_empty l
  simpa [mp, Maps.size] using this
theorem size_mp2 (m l : List (Int × Int)) : Maps.size (mpFrom (mp m) l) ≤ m.length + l.length := by
  have h1 := size_from (tidy_from (D := (.map [] : DW)) tidy_empty m) l
  have h2 := size_mp m
  unfold mp at *
  omega
theorem size_same {D : DW} {f : Int → Option Int} (h : Tidy D) (hr : Reads D f) (l : List (Int × Int)) (hl : ∀ p ∈ l, (f p.1).isSome = true) : Maps.size (mpFrom D l) = Maps.size D := by
  induction l using snocInd with
  | nil => simp [mpFrom]
  | snoc l e ih =>
    rw [mpFrom_snoc, size_put (tidy_from h l)]
    have hh : has (mpFrom D l) (kl e.1) = true := by
      rw [((hr.from l).2 e.1).1]
      have := hl e (by simp)
      cases hc : lk l e.1 <;> simp [hc, this]
    rw [hh, if_pos rfl]
    exact ih fun p hp => hl p (by simp [hp])
theorem size_tab {zs ts : List (Int × Int)} (h : Tab ts (lk zs)) : Maps.size (mpFrom (mp zs) ts) ≤ zs.length := by
  rw [size_same (D := mp zs) (tidy_from tidy_empty zs) (reads_mp zs) ts (fun p hp => by rw [(h.mem p.1 p.2).1 hp]; rfl)]
  exact size_mp zs
theorem wf_tab {zs ts : List (Int × Int)} (hf : WF zs) (h : Tab ts (lk zs)) : WF ts := fun p hp => hf p (lk_mem _ _ _ ((h.mem p.1 p.2).1 hp))

set_option maxRecDepth 100000 in
set_option maxHeartbeats 2000000 in
theorem implMapCollect (a : Option Addr) (len cap : Nat) (zs : List (Int × Int)) (hreach : len * 16 ≤ 140737488351232) (hf : WF zs) (w : World) (hI : Rd w w.heap.size 2 a len (pairs zs)) :
    Calls Try.prog 30 #[.slice a len cap] w fun e w' => ∃ A m c ts, e = .returned (.slice A m c) ∧ w'.ownsRow w.heap.size 35 2 (.slice A m c) m (pairs ts) ∧ Tab ts (lk zs) ∧ ts.length = m ∧ m ≤ len ∧ Below w.heap.size w w' := by
  have HF := hide hf
  clear hf
  go_enter Try.func30, Try.ntmps30
  go_wp2_with fail
  refine ((callsIn_wide (n := 3)).1 (pairs_in 3 a len cap w)).mono ?_
  rintro e w1 ⟨rfl, hw1⟩
  have hc : w1.cell? ⟨w.heap.size, 0, none⟩ = some (.slice a len cap) := by rw [hw1]; exact (Boxed.new w 22 (.slice a len cap)).cell
  have hB1 : Below w.heap.size w w1 := by rw [hw1]; exact (Below.refl _ w).alloc (Nat.le_refl _) _
  have H1 : Hid (w1.heap.size = w.heap.size + 1) := hide (by rw [hw1]; simp)
  clear hw1
  go_wp2_with fail
  refine (mapsCollect w.heap.size w.heap.size len cap a zs hreach HF.out w1 hB1.size (by have := H1.out; omega) hc (hI.below hB1)).mono ?_
  rintro e w2 ⟨rfl, hm, hB2⟩
  have hbd := hm.size_le
  go_wp2_with fail
  refine (implEntries w1.heap.size len (mp zs) (lk zs) (reads_mp zs) (by omega) w2 hm).mono ?_
  rintro e w3 ⟨A, c, ts, rfl, own, htab, hle, hB3⟩
  have q1 := hB1.size
  have q2 := hB2.size
  go_wp2
  go_ret
  exact ⟨A, ts.length, c, ts, rfl, own_base own (by omega), htab, rfl, hle, hB1.trans ((hB2.mono q1).trans (hB3.mono (by omega)))⟩

set_option maxRecDepth 100000 in
set_option maxHeartbeats 2000000 in
theorem implMapInsert (a : Option Addr) (len cap : Nat) (zs : List (Int × Int)) (a' : Option Addr) (len' cap' : Nat) (ys : List (Int × Int)) (hreach : len * 16 ≤ 140737488351232) (hreach' : len' * 16 ≤ 140737488351232) (hf : WF zs) (hf' : WF ys) (hsz : Maps.size (mpFrom (mp zs) ys) * 16 ≤ 140737488351232) (w : World) (hI : Rd w w.heap.size 2 a len (pairs zs)) (hI' : Rd w w.heap.size 2 a' len' (pairs ys)) :
    Calls Try.prog 31 #[.slice a len cap, .slice a' len' cap'] w fun e w' => ∃ A m c ts, e = .returned (.slice A m c) ∧ w'.ownsRow w.heap.size 35 2 (.slice A m c) m (pairs ts) ∧ Tab ts (lk (zs ++ ys)) ∧ ts.length = m ∧ m ≤ len + len' ∧ Below w.heap.size w w' := by
  have HF := hide hf
  have HF' := hide hf'
  have HS := hide hsz
  clear hf hf' hsz
  go_enter Try.func31, Try.ntmps31
  go_wp2_with fail
  refine (implTable a len cap zs hreach HF.out w hI).mono ?_
  rintro e w1 ⟨rfl, hm, hB1⟩
  have q1 := hB1.size
  have hml := hm.lt
  go_wp2_with fail
  refine ((callsIn_wide (n := 3)).1 (pairs_in 3 a' len' cap' w1)).mono ?_
  rintro e w2 ⟨rfl, hw2⟩
  have hc : w2.cell? ⟨w1.heap.size, 0, none⟩ = some (.slice a' len' cap') := by rw [hw2]; exact (Boxed.new w1 22 (.slice a' len' cap')).cell
  have hB2 : Below w.heap.size w w2 := by rw [hw2]; exact hB1.trans ((Below.refl _ w1).alloc q1 _)
  have hm2 : w2.ownsMap Try.prog 3 (plainElem Try.prog 3) w.heap.size len (mp zs) := by rw [hw2]; exact hm.alloc _
  have H2 : Hid (w2.heap.size = w1.heap.size + 1) := hide (by rw [hw2]; simp)
  clear hw2 hm
  go_wp2_with fail
  refine (mapsInsert w.heap.size len w1.heap.size w.heap.size len' cap' a' ys (mp zs) hreach' (by omega) HF'.out w2 hm2 (Nat.le_refl _) (by have := H2.out; omega) hc (hI'.below hB2)).mono ?_
  rintro e w3 ⟨rfl, hm3, hg3⟩
  have hB3 : Below w.heap.size w w3 := hB2.grown hg3 hB2.size (fun j e => by cases e; exact Nat.le_refl _)
  clear hm2
  go_wp2_with fail
  refine (implEntries w.heap.size (len + len') (mpFrom (mp zs) ys) (lk (zs ++ ys)) (reads_mp2 zs ys) HS.out w3 hm3).mono ?_
  rintro e w4 ⟨A, c, ts, rfl, own, htab, hle, hB4⟩
  have q3 := hB3.size
  go_wp2
  go_ret
  exact ⟨A, ts.length, c, ts, rfl, own_base own q3, htab, rfl, hle, hB3.trans (hB4.mono q3)⟩

set_option maxHeartbeats 1000000 in
theorem lawsDifferent (A : Option Addr) (n c : Nat) (l : List (Int × Int)) (w : World) (hI : Rd w w.heap.size 2 A n (pairs l)) (hreach : n * 16 ≤ 140737488351232) :
    Calls Try.prog 29 #[.slice A n c] w fun e w' => ∃ b, e = .returned (.bool b) ∧ Below w.heap.size w w' := by
  go_enter Try.func29, Try.ntmps29
  go_wp2_with fail
  refine (lawsTable A n c l w hI hreach).mono ?_
  rintro e w2 ⟨A2, d2, t, rfl, own2, htab, htl, g2⟩
  go_wp2
  go_ret
  exact ⟨_, rfl, g2⟩

set_option maxHeartbeats 1000000 in
theorem joinedE (a : Option Addr) (n c : Nat) (xs : List (Int × Int)) (a' : Option Addr) (m c' : Nat) (ys : List (Int × Int)) (hb : (n + m) * 16 ≤ 140737488351232) (w : World) (hx : Rd w w.heap.size 2 a n (pairs xs)) (hy : Rd w w.heap.size 2 a' m (pairs ys)) :
    Calls Try.prog 32 #[.slice a n c, .slice a' m c'] w fun e W' => ∃ A' c', e = .returned (.slice A' (n + m) c') ∧ W'.ownsRow w.heap.size 35 2 (.slice A' (n + m) c') (n + m) (pairs (xs ++ ys)) ∧ Below w.heap.size w W' := by
  obtain ⟨i0, hi, hz0, hz1, hz2⟩ := info_parts infoIE
  go_enter Try.func32, Try.ntmps32
  go_wp2_with (first
    | (at_builtin; refine wpList_append_rd _ rfl (.const (.slice none 0 0)) (.tmp 5) 22 rfl w.heap.size 35 i0 (.agg #[.int .i64 0, .int .i64 0]) 2 16 Try.underlying22 hi hz0 hz1 hz2 rfl (by decide) (.slice none 0 0) 0 [] rfl (World.ownsRow_nil _ _ _ _) w.heap.size a n c _ rfl hx (pairs_onecell _) (by unfold maxLen; omega) (by omega) (Nat.le_refl _) ?_; intro v1 w1 own1 hg1 _; simp only [Nat.zero_add, List.nil_append] at own1; have hb1 : Below w.heap.size w w1 := (Below.refl _ _).grown hg1 (Nat.le_refl _) (by simp [Value.ownBlock]))
    | (at_builtin; refine wpList_append_rd _ rfl (.tmp 6) (.tmp 7) 22 rfl w.heap.size 35 i0 (.agg #[.int .i64 0, .int .i64 0]) 2 16 Try.underlying22 hi hz0 hz1 hz2 rfl (by decide) v1 n (pairs xs) rfl own1 w.heap.size a' m c' _ rfl (hy.below hb1) (pairs_onecell _) (by unfold maxLen; omega) (by omega) hb1.size ?_; intro v2 w2 own2 hg2 _; obtain ⟨A4, c4, rfl⟩ := own_slice own2))
  go_ret
  exact ⟨A4, c4, rfl, by rw [pairs_append]; exact own2, hb1.grown hg2 hb1.size fun k e => (own1.lt k e).1⟩
end Go.Proofs.Ytcgcfenenkdhlaa
