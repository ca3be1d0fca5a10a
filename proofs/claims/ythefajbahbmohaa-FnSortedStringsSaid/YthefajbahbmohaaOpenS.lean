/-
  Opening an argument that is a slice of strings.
-/
import Derived.Deep.Strs
import Derived.Test.YthefajbahbmohaaOpen
namespace Go.Proofs.Ythefajbahbmohaa
open Go.ChangeShapes Go.WideShapes Go.ChangeAt Go.RowKit
set_option linter.unusedVariables false
set_option linter.unusedSimpArgs false

theorem bytesStr : Try.prog.bytesOf 9 = 16 := by kernel_rfl
set_option maxRecDepth 100000 in
/-- a slice of strings that came in -/
theorem openStrs {H : Type} {enc : TypeId × Value → H} {W : World} {base : Nat} {v : Value} {d : DataW H} {p : List MemPlace}
    (hv : Value.okWide Try.prog W .any base 29 v) (h : DataW.Trod enc Try.prog W 0 (fun _ => true) true 29 v d p) :
    ∃ (a : Option Addr) (len cap : Nat) (zs : List ByteArray), v = .slice a len cap ∧ len ≤ cap ∧ cap ≤ maxLen ∧ Rd W W.heap.size 1 a len (zs.map Value.string) ∧ (∀ x ∈ zs, x.size ≤ maxLen) ∧ len + 1 ≤ Rows.uptoBulk d ∧
      ((∀ n ∈ d.weights Try.prog 29, n ≤ reachBytes) → len * 16 ≤ 140737488351232) := by
  obtain ⟨a, len, cap, rfl⟩ := okWide_slice Try.underlying29 hv
  obtain ⟨fuel, hf⟩ := h
  rcases Deep.open_strs Try.underlying29 Try.underlying9 (by kernel_rfl) hf with ⟨hcs, hx⟩ | ⟨x, l, c, m, Sx, hcs, _, hl, hm, hz, hx, hcell⟩
  · simp [Value.cells] at hcs
    obtain ⟨rfl, rfl, rfl⟩ := hcs
    simp only [Prod.mk.injEq] at hx
    obtain ⟨rfl, rfl⟩ := hx
    exact ⟨none, 0, 0, [], rfl, by omega, by simp [maxLen], Rd.zero, by simp, bulk_one _, by omega⟩
  · simp [Value.cells] at hcs
    obtain ⟨rfl, rfl, rfl⟩ := hcs
    simp only [Prod.mk.injEq] at hx
    obtain ⟨rfl, rfl⟩ := hx
    have hmc : m = cap := by simpa using hz
    subst hmc
    refine ⟨some x, len, m, (List.range len).map Sx, rfl, hl, hm, ?_, ?_, ?_, fun hw => ?_⟩
    · have := rd_of_fn (n := len) fun i hi => (hcell i (by omega)).1
      simpa [Function.comp_def] using this
    · intro y hy
      obtain ⟨i, hi, rfl⟩ := List.mem_map.1 hy
      exact (hcell i (by have := List.mem_range.1 hi; omega)).2
    · have := bulk_slice ((List.range len).map fun i => (DataW.lit (.string (Sx i).data.toList) : DataW H)) ((List.range (m - len)).map fun j => .lit (.string (Sx (len + j)).data.toList))
      simpa using this
    · have := hw ((((List.range len).map fun i => (DataW.lit (.string (Sx i).data.toList) : DataW H)).length + ((List.range (m - len)).map fun j => (DataW.lit (.string (Sx (len + j)).data.toList) : DataW H)).length) * 16) (by simp [DataW.weights, Try.underlying29, bytesStr])
      simp only [reachBytes, List.length_map, List.length_range] at this
      omega
end Go.Proofs.Ythefajbahbmohaa
