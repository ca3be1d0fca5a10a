/-
  Opening an argument that is a slice of slices of numbers.
-/
import Derived.Deep.Matrix
import Derived.Test.YtbgkchjephioiaaOpen
namespace Go.Proofs.Ytbgkchjephioiaa
open Go.ChangeShapes Go.WideShapes Go.ChangeAt Go.RowKit
set_option linter.unusedVariables false
set_option linter.unusedSimpArgs false

theorem rows_bulk {H : Type} (A : Nat → Option Addr) (L C : Nat → Nat) (Z : Nat → List Int) (n : Nat) (hZ : ∀ r, r < n → L r ≤ (Z r).length ∧ (A r = none → (Z r).length = 0)) :
    n + ((List.range n).map fun r => (Z r).take (L r)).flatten.length ≤ Rows.uptoBulkAll ((List.range n).map fun r => Deep.intRow (H := H) .i64 (A r) (L r) (Z r)) := by
  have happ : ∀ l r : List (DataW H), Rows.uptoBulkAll (l ++ r) = Rows.uptoBulkAll l + Rows.uptoBulkAll r := by
    intro l r
    induction l with
    | nil => simp [Rows.uptoBulkAll]
    | cons x l ih => simp only [List.cons_append, Rows.uptoBulkAll, ih]; omega
  induction n with
  | zero => simp [Rows.uptoBulkAll]
  | succ n ih =>
    have h1 := ih fun r hr => hZ r (by omega)
    rw [List.range_succ, List.map_append, List.map_append, List.flatten_append, List.length_append, happ]
    have h2 : 1 + ((Z n).take (L n)).length ≤ Rows.uptoBulkAll [Deep.intRow (H := H) .i64 (A n) (L n) (Z n)] := by
      obtain ⟨h3, h4⟩ := hZ n (by omega)
      simp only [Rows.uptoBulkAll]
      cases hA : A n with
      | none =>
        have := h4 hA
        have h5 := bulk_one (Deep.intRow (H := H) .i64 none (L n) (Z n))
        simp; omega
      | some a =>
        have h5 := bulk_slice (lits (H := H) .i64 ((Z n).take (L n))) (lits .i64 ((Z n).drop (L n)))
        simp [lits] at h5
        simp only [Deep.intRow, lits] at *
        simp; omega
    simp only [List.map_cons, List.map_nil, List.flatten_cons, List.flatten_nil, List.append_nil]
    omega
theorem openRows {H : Type} {enc : TypeId × Value → H} {W : World} {base : Nat} {v : Value} {d : DataW H} {p : List MemPlace}
    (hv : Value.okWide Try.prog W .any base 44 v) (h : DataW.Trod enc Try.prog W 0 (fun _ => true) true 44 v d p) :
    ∃ a len cap rs zz, v = .slice a len cap ∧ len ≤ cap ∧ cap ≤ maxLen ∧ Rd W W.heap.size 1 a len (rows rs) ∧ RowsRd W W.heap.size rs zz ∧ len + zz.flatten.length + 1 ≤ Rows.uptoBulk d ∧ True := by
  obtain ⟨a, len, cap, rfl⟩ := okWide_slice Try.underlying44 hv
  obtain ⟨fuel, hf⟩ := h
  rcases Deep.open_int_rows Try.underlying44 Try.underlying22 Try.underlying3 (by kernel_rfl) (by kernel_rfl) hf with ⟨hcs, hx⟩ | ⟨x, l, c, A, L, C, Z, hcs, _, hl, hm, hx, hr⟩
  · simp [Value.cells] at hcs
    obtain ⟨rfl, rfl, rfl⟩ := hcs
    simp only [Prod.mk.injEq] at hx
    obtain ⟨rfl, rfl⟩ := hx
    exact ⟨none, 0, 0, [], [], rfl, by omega, by simp [maxLen], Rd.zero, ⟨rfl, by simp⟩, by have := bulk_one (DataW.nil (H := H)); simp; omega, trivial⟩
  · simp [Value.cells] at hcs
    obtain ⟨rfl, rfl, rfl⟩ := hcs
    simp only [Prod.mk.injEq] at hx
    obtain ⟨rfl, rfl⟩ := hx
    refine ⟨some x, len, cap, (List.range len).map fun r => (A r, L r, C r), (List.range len).map fun r => (Z r).take (L r), rfl, hl, hm, ?_, ⟨by simp, ?_⟩, ?_, trivial⟩
    · have := rd_of_fn (n := len) fun i hi => (hr i (by omega)).1
      simpa [rows, Function.comp_def] using this
    · intro i r z h1 h2
      obtain ⟨hi, rfl⟩ := List.getElem?_eq_some_iff.1 h1
      obtain ⟨hi2, rfl⟩ := List.getElem?_eq_some_iff.1 h2
      simp at hi
      simp only [List.getElem_map, List.getElem_range]
      obtain ⟨_, h3, h4, h5, h6, h7, h8⟩ := hr i (by omega)
      cases hA : A i with
      | none =>
        have h9 := h7 hA
        have e1 : L i = 0 := by omega
        rw [e1]
        simpa using Rd.zero
      | some a' => exact rd_of_cells (by omega) fun j hj => (h8 a' hA).2 j (by omega)
    · have h1 := rows_bulk (H := H) A L C Z len fun r hr' => by
        obtain ⟨_, h3, h4, h5, h6, h7, _⟩ := hr r (by omega)
        exact ⟨by omega, fun e => by rw [h5]; exact h7 e⟩
      have h2 : Rows.uptoBulkAll ((List.range len).map fun r => Deep.intRow (H := H) .i64 (A r) (L r) (Z r)) + 1 ≤ Rows.uptoBulk (.slice ((List.range len).map fun r => Deep.intRow (H := H) .i64 (A r) (L r) (Z r)) ((List.range (cap - len)).map fun j => Deep.intRow .i64 (A (len + j)) (L (len + j)) (Z (len + j)))) := by
        simp only [Rows.uptoBulk]; omega
      omega
end Go.Proofs.Ytbgkchjephioiaa
