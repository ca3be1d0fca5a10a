/-
  What the laws of inserting take from the table of a list.
-/
import Derived.Test.YtcgcfenenkdhlaaMapC
import Derived.Test.YtcgcfenenkdhlaaCountE
namespace Go.Proofs.Ytcgcfenenkdhlaa
open Go.RowKit
set_option linter.unusedVariables false
set_option linter.unusedSimpArgs false

theorem lk_some {l : List (Int × Int)} {e : Int × Int} (h : e ∈ l) : (lk l e.1).isSome = true := by
  induction l using snocInd with
  | nil => cases h
  | snoc l d ih =>
    rw [lk_snoc]
    split
    · rfl
    · next hne =>
      rcases List.mem_append.1 h with h1 | h1
      · exact ih h1
      · exact absurd (by simp at h1; rw [h1]) hne
theorem tab_count {ts : List (Int × Int)} {f : Int → Option Int} (h : Tab ts f) {k : Int} (hk : (f k).isSome = true) : (ts.map (·.1)).count k = 1 := by
  obtain ⟨v, hv⟩ := Option.isSome_iff_exists.1 hk
  have hm : k ∈ ts.map (·.1) := List.mem_map.2 ⟨(k, v), (h.mem k v).2 hv, rfl⟩
  have h1 := List.count_pos_iff.2 hm
  have h2 := List.nodup_iff_count.1 h.nodup k
  omega
theorem lk_step {xs l b : List (Int × Int)} (h : Tab xs (lk l)) : lk (xs ++ b) = lk (l ++ b) := funext fun k => by rw [lk_append, lk_append, h.lk k]
theorem lk_again (l a : List (Int × Int)) : lk (l ++ a ++ a) = lk (l ++ a) := funext fun k => by rw [lk_append, lk_append]; cases lk a k <;> rfl
theorem wf_append {a b : List (Int × Int)} (ha : WF a) (hb : WF b) : WF (a ++ b) := fun p hp => (List.mem_append.1 hp).elim (ha p) (hb p)
theorem countOne (A : Option Addr) (n c B : Nat) (xs : List Int) (x : Int) (w : World) (h1 : xs.count x = 1) (hx : Rd w B 1 A n (ints xs)) (hn : n ≤ 9223372036854775806) :
    Calls Try.prog 33 #[.slice A n c, .int .i64 x] w fun e w' => e = .returned (.int .i64 1) ∧ w = w' := by
  have := countInt A n c B xs x w hx hn
  rw [h1] at this
  exact this
theorem countZ (A : Option Addr) (n c B : Nat) (xs : List Int) (x : Int) (w : World) (h1 : xs.count x = 0) (hx : Rd w B 1 A n (ints xs)) (hn : n ≤ 9223372036854775806) :
    Calls Try.prog 33 #[.slice A n c, .int .i64 x] w fun e w' => e = .returned (.int .i64 0) ∧ w = w' := by
  have := countInt A n c B xs x w hx hn
  rw [h1] at this
  exact this
theorem countQ (A : Option Addr) (n c B : Nat) (xs : List Int) (x : Int) (q : Nat) (w : World) (h1 : xs.count x = q) (hx : Rd w B 1 A n (ints xs)) (hn : n ≤ 9223372036854775806) :
    Calls Try.prog 33 #[.slice A n c, .int .i64 x] w fun e w' => e = .returned (.int .i64 q) ∧ w = w' := by
  have := countInt A n c B xs x w hx hn
  rw [h1] at this
  exact this
theorem no_snoc {z : List (Int × Int)} {i : Nat} {x y : Int} {bs : List Int} (hx : z[i]? = some (x, y)) (h : ∀ e ∈ z.take i, e.1 ∉ bs) (hn : x ∉ bs) : ∀ e ∈ z.take (i + 1), e.1 ∉ bs := by
  rw [take_snoc' hx]
  intro e he
  rcases List.mem_append.1 he with h1 | h1
  · exact h e h1
  · obtain rfl : e = (x, y) := by simpa using h1
    exact hn
theorem lk_none {l : List (Int × Int)} {k : Int} (h : k ∉ l.map (·.1)) : lk l k = none := by
  cases hv : lk l k with
  | none => rfl
  | some v => exact absurd (List.mem_map.2 ⟨(k, v), lk_mem _ _ _ hv, rfl⟩) h
theorem lk_apart {m a b : List (Int × Int)} (h : ∀ e ∈ a, e.1 ∉ b.map (·.1)) : lk (m ++ a ++ b) = lk (m ++ b ++ a) := funext fun k => by
  rw [lk_append, lk_append, lk_append, lk_append]
  by_cases hb : k ∈ b.map (·.1)
  · have ha : lk a k = none := by
      cases hv : lk a k with
      | none => rfl
      | some v => exact absurd hb (h (k, v) (lk_mem _ _ _ hv))
    rw [ha]; simp
  · rw [lk_none hb]; simp
end Go.Proofs.Ytcgcfenenkdhlaa
