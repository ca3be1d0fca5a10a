/-
  Slices of slices of the call's own: lemmas.
-/
import Derived.WalkKit
import Derived.WalkSpells
import Derived.WalkLawsBesides
import Derived.Outline
import Derived.Deep.DeepMust
import Derived.Deep.QuietTactic
import Derived.BigQuiet
import Derived.Laws.MakeOwn
import Derived.Test.YtiihcdoemgmjbaaAppR
namespace Go.Proofs.Ytiihcdoemgmjbaa
open Go.RowKit
set_option linter.unusedVariables false
set_option linter.unusedSimpArgs false

theorem cell_ex {w : World} {g k : Nat} {cs : List Value} {t : TypeId} (h : w.heap[g]? = some (.cells cs.toArray t (0, 0))) (hk : k < cs.length) : ∃ u, w.cell? ⟨g, k, none⟩ = some u :=
  ⟨cs[k], by rw [cell_of_row w g k _ t _ h]; simp [hk]⟩
theorem frozen_zero {w : World} {g : Nat} {cs : Array Value} {t : TypeId} (h : w.heap[g]? = some (.cells cs t (0, 0))) (k : Nat) : w.frozen? ⟨g, k, none⟩ = false := by simp [World.frozen?, h]
theorem rd_of_block {w : World} {g n : Nat} {cs : List Value} {t : TypeId} (h : w.heap[g]? = some (.cells cs.toArray t (0, 0))) (hn : cs.length = n) : Rd w w.heap.size 1 (some ⟨g, 0, none⟩) n cs :=
  ⟨by simp [hn], fun _ => ⟨g, 0, rfl, (Array.getElem?_eq_some_iff.1 h).1, fun j u hu => by rw [cell_of_row w g (0 + j) _ t _ h]; simpa using hu⟩⟩
theorem own_some {w : World} {base : Nat} {e : TypeId} {sz : Nat} {v : Value} {n : Nat} {xs : List Value} (h : w.ownsRow base e sz v n xs) (hn : 0 < n) : ∃ g cap, v = .slice (some ⟨g, 0, none⟩) n cap ∧ base ≤ g := by
  rcases h.2 with ⟨_, h0⟩ | ⟨g, cap, cur, hv, hb, _⟩
  · omega
  · exact ⟨g, cap, hv, hb⟩
/-- rows of the call's own -/
def RowsOwn (w : World) (base : Nat) (rs : List (Option Addr × Nat × Nat)) (zz : List (List Int)) : Prop :=
  rs.length = zz.length ∧ ∀ (i : Nat) (r : Option Addr × Nat × Nat) (z : List Int), rs[i]? = some r → zz[i]? = some z → w.ownsRow base 3 1 (.slice r.1 r.2.1 r.2.2) r.2.1 (ints z)
theorem RowsOwn.map {w w' : World} {base : Nat} {rs : List (Option Addr × Nat × Nat)} {zz : List (List Int)} (h : RowsOwn w base rs zz) (hk : ∀ v n xs, w.ownsRow base 3 1 v n xs → w'.ownsRow base 3 1 v n xs) : RowsOwn w' base rs zz := ⟨h.1, fun i r z h1 h2 => hk _ _ _ (h.2 i r z h1 h2)⟩
theorem RowsOwn.rd {w : World} {base : Nat} {rs : List (Option Addr × Nat × Nat)} {zz : List (List Int)} (h : RowsOwn w base rs zz) : RowsRd w w.heap.size rs zz := ⟨h.1, fun i r z h1 h2 => Rd.of_own (h.2 i r z h1 h2)⟩
theorem RowsOwn.snoc {w : World} {base k : Nat} {rs : List (Option Addr × Nat × Nat)} {zz : List (List Int)} {z : List Int} {A : Option Addr} {m c : Nat} (h : RowsOwn w base rs (zz.take k)) (hz : zz[k]? = some z) (hr : w.ownsRow base 3 1 (.slice A m c) m (ints z)) : RowsOwn w base (rs ++ [(A, m, c)]) (zz.take (k + 1)) := by
  rw [take_snoc' hz]
  refine ⟨by simp [h.1], fun i r z' h1 h2 => ?_⟩
  by_cases hi : i < rs.length
  · rw [List.getElem?_append_left hi] at h1
    rw [List.getElem?_append_left (by rw [← h.1]; exact hi)] at h2
    exact h.2 i r z' h1 h2
  · have hi' : i = rs.length := by
      have := (List.getElem?_eq_some_iff.1 h1).1
      simp at this; omega
    subst hi'
    rw [List.getElem?_append_right (Nat.le_refl _)] at h1
    rw [h.1, List.getElem?_append_right (Nat.le_refl _)] at h2
    simp at h1 h2
    subst h1; subst h2
    exact hr
theorem infoSl : (Try.prog.info? 22).map (fun i => (i.zero, i.size, i.bytes)) = some (some (.slice none 0 0), 1, 24) := by kernel_rfl
theorem set_rows (rs : List (Option Addr × Nat × Nat)) (n : Nat) (h : rs.length < n) (A : Option Addr) (m c : Nat) :
    (rows rs ++ List.replicate (n - rs.length) (Value.slice none 0 0)).toArray.setIfInBounds rs.length (.slice A m c) = (rows (rs ++ [(A, m, c)]) ++ List.replicate (n - (rs.length + 1)) (Value.slice none 0 0)).toArray := by
  apply Array.toList_inj.1
  simp only [Array.toList_setIfInBounds]
  rw [show n - rs.length = (n - (rs.length + 1)) + 1 by omega, List.replicate_succ]
  rw [show rs.length = (rows rs).length by simp [rows], List.set_append_right _ _ (Nat.le_refl _)]
  simp [rows]
theorem heap_setCell_at {w : World} {g : Nat} {cs : Array Value} {t : TypeId} (h : w.heap[g]? = some (.cells cs t (0, 0))) (i : Nat) (u : Value) : (w.setCell ⟨g, i, none⟩ u).heap[g]? = some (.cells (cs.setIfInBounds i u) t (0, 0)) := by
  simp [World.setCell, Array.getElem?_modify, h]

theorem run_makeRows (n : Nat) (hn : n ≤ 4194304) (W : World) : (Instr.makeSlice 23 (.int .i64 (n : Int)) (.int .i64 (n : Int))).run Try.prog W = .ok (.slice (some ⟨W.heap.size, 0, none⟩) n n) (W.alloc (.cells (Array.replicate n (Value.slice none 0 0)) 22)) := by
  obtain ⟨j0, hj, hy0, hy1, hy2⟩ := info_parts infoSl
  have h := run_make (P := Try.prog) W 23 22 j0 (.slice none 0 0) Try.underlying23 hj hy0 .i64 .i64 (n : Int) (n : Int) (by omega) (by omega) (by rw [hy2]; omega) (by omega)
  have e2 : madeCells #[Value.slice none 0 0] n = Array.replicate n (Value.slice none 0 0) := by apply Array.toList_inj.1; rw [toList_madeCells_one]; simp
  rw [Int.toNat_natCast, hy1] at h
  simpa [Value.cells, e2] using h
end Go.Proofs.Ytiihcdoemgmjbaa
