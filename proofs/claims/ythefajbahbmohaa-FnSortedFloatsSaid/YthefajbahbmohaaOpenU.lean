/-
  Opening an argument that is a slice of uint64s.
-/
import Derived.Test.YthefajbahbmohaaOpen
namespace Go.Proofs.Ythefajbahbmohaa
open Go.ChangeShapes Go.WideShapes Go.ChangeAt Go.RowKit
set_option linter.unusedVariables false
set_option linter.unusedSimpArgs false

theorem bytesU : Try.prog.bytesOf 38 = 8 := by kernel_rfl
set_option maxRecDepth 100000 in
/-- a slice of uint64s that came in -/
theorem openU64s {H : Type} {enc : TypeId × Value → H} {W : World} {base : Nat} {v : Value} {d : DataW H} {p : List MemPlace}
    (hv : Value.okWide Try.prog W .any base 35 v) (h : DataW.Trod enc Try.prog W 0 (fun _ => true) true 35 v d p) :
    ∃ (a : Option Addr) (len cap : Nat) (zs : List Int), v = .slice a len cap ∧ len ≤ cap ∧ cap ≤ maxLen ∧ Rd W W.heap.size 1 a len (zs.map (Value.int .u64)) ∧ (∀ x ∈ zs, (Lit.int .u64 x).wf = true) ∧ len + 1 ≤ Rows.uptoBulk d ∧
      ((∀ n ∈ d.weights Try.prog 35, n ≤ reachBytes) → len * 8 ≤ 140737488351232) := by
  obtain ⟨a, len, cap, rfl⟩ := okWide_slice Try.underlying35 hv
  obtain ⟨fuel, hf⟩ := h
  rcases open_ints Try.underlying35 Try.underlying38 (by kernel_rfl) hf with ⟨hcs, hx⟩ | ⟨x, l, c, zs, hcs, _, hl, hm, hz, hx, hcell, hwz⟩
  · simp [Value.cells] at hcs
    obtain ⟨rfl, rfl, rfl⟩ := hcs
    simp only [Prod.mk.injEq] at hx
    obtain ⟨rfl, rfl⟩ := hx
    exact ⟨none, 0, 0, [], rfl, by omega, by simp [maxLen], Rd.zero, by simp, bulk_one _, by omega⟩
  · simp [Value.cells] at hcs
    obtain ⟨rfl, rfl, rfl⟩ := hcs
    simp only [Prod.mk.injEq] at hx
    obtain ⟨rfl, rfl⟩ := hx
    have hz' : zs.length = cap := by simpa using hz
    have hlen : (lits (H := H) .u64 (zs.take len)).length = len := by simp [lits]; omega
    refine ⟨some x, len, cap, zs.take len, rfl, hl, hm, rd_of_cells (by omega) hcell, fun y hy => hwz y (List.mem_of_mem_take hy), ?_, fun hw => ?_⟩
    · have := bulk_slice (lits (H := H) .u64 (zs.take len)) (lits .u64 (zs.drop len))
      rw [hlen] at this; exact this
    · have := hw ((lits (H := H) .u64 (zs.take len)).length + (lits (H := H) .u64 (zs.drop len)).length |>.mul 8) (by simp [DataW.weights, Try.underlying35, bytesU])
      rw [hlen] at this
      simp only [reachBytes, Nat.mul_eq] at this
      omega
end Go.Proofs.Ythefajbahbmohaa
