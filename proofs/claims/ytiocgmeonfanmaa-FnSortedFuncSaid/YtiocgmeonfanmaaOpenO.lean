/-
  Opening an argument that is an order: a number and a slice of numbers, by value.
-/
import Derived.Lib.SmallJoins
import Derived.Test.YtiocgmeonfanmaaOpen
namespace Go.Proofs.Ytiocgmeonfanmaa
open Go.ChangeShapes Go.WideShapes Go.ChangeAt Go.RowKit
set_option linter.unusedVariables false
set_option linter.unusedSimpArgs false

theorem cellsOrder : Try.prog.cellsOf 25 = 2 := by kernel_rfl
set_option maxRecDepth 100000 in
theorem openOrder {H : Type} {enc : TypeId × Value → H} {W : World} {base : Nat} {v : Value} {d : DataW H} {p : List MemPlace}
    (hv : Value.okWide Try.prog W .any base 25 v) (h : DataW.Trod enc Try.prog W 0 (fun _ => true) true 25 v d p) :
    ∃ s a len cap zs, v = .agg #[.int .i64 s, .slice a len cap] ∧ (Lit.int .i64 s).wf = true ∧ len ≤ cap ∧ cap ≤ maxLen ∧ Rd W W.heap.size 1 a len (ints zs) ∧ (∀ x ∈ zs, (Lit.int .i64 x).wf = true) ∧ len + 1 ≤ Rows.uptoBulk d ∧
      ((∀ n ∈ d.weights Try.prog 25, n ≤ reachBytes) → len * 8 ≤ 140737488351232) := by
  obtain ⟨c0, c1, y0, y1, m, rfl, rfl, rfl, hy0, hy1⟩ := Joins.open_agg2 Try.underlying25 (by kernel_rfl) cellsOrder hv h
  obtain ⟨s, e0, rfl, ws⟩ := DataW.trod_int Try.underlying3 hy0
  simp at e0
  subst e0
  obtain ⟨d1, p1⟩ := y1
  have hf : DataW.trod enc Try.prog W 0 (fun _ => true) true m 23 [c1] = some (d1, p1) := hy1
  have bulk : ∀ n, n ≤ Rows.uptoBulk d1 → n ≤ Rows.uptoBulk (.agg [.lit (.int .i64 s), d1] : DataW H) := fun n hn => by simp only [Rows.uptoBulk, Rows.uptoBulkAll]; omega
  have wgt : ∀ n, n ∈ d1.weights Try.prog 23 → n ∈ (.agg [.lit (.int .i64 s), d1] : DataW H).weights Try.prog 25 := fun n hn => by
    simp [DataW.weights, DataW.weightsEach, Try.underlying25]
    exact hn
  rcases open_ints Try.underlying23 Try.underlying3 (by kernel_rfl) hf with ⟨hcs, hx⟩ | ⟨x, l, c, zs, hcs, _, hl, hm, hz, hx, hcell, hwz⟩
  · simp at hcs
    subst hcs
    simp only [Prod.mk.injEq] at hx
    obtain ⟨rfl, rfl⟩ := hx
    exact ⟨s, none, 0, 0, [], rfl, ws, by omega, by simp [maxLen], Rd.zero, by simp, bulk_one _, by omega⟩
  · simp at hcs
    subst hcs
    simp only [Prod.mk.injEq] at hx
    obtain ⟨rfl, rfl⟩ := hx
    have hz' : zs.length = c := by simpa using hz
    have hlen : (lits (H := H) .i64 (zs.take l)).length = l := by simp [lits]; omega
    refine ⟨s, some x, l, c, zs.take l, rfl, ws, hl, hm, rd_of_cells (by omega) hcell, fun y hy => hwz y (List.mem_of_mem_take hy), ?_, fun hw => ?_⟩
    · have := bulk_slice (lits (H := H) .i64 (zs.take l)) (lits .i64 (zs.drop l))
      rw [hlen] at this; exact bulk _ this
    · have := hw ((lits (H := H) .i64 (zs.take l)).length + (lits (H := H) .i64 (zs.drop l)).length |>.mul 8) (wgt _ (by simp [DataW.weights, Try.underlying23, bytesInt]))
      rw [hlen] at this
      simp only [reachBytes, Nat.mul_eq] at this
      omega
end Go.Proofs.Ytiocgmeonfanmaa
