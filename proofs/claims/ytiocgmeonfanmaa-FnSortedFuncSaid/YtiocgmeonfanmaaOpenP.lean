/-
  Opening an argument that is a slice of items.
-/
import Derived.Deep.SlicePairs
import Derived.Test.YtiocgmeonfanmaaOpen
namespace Go.Proofs.Ytiocgmeonfanmaa
open Go.ChangeShapes Go.WideShapes Go.ChangeAt Go.RowKit
set_option linter.unusedVariables false
set_option linter.unusedSimpArgs false

theorem bytesItem : Try.prog.bytesOf 36 = 16 := by kernel_rfl
theorem rd_of_pairs {W : World} {x : Addr} {n : Nat} {f : Nat → Int × Int} (hc : ∀ i, i < n → W.cell? (x.add (i * 2)) = some (.int .i64 (f i).1) ∧ W.cell? (x.add (i * 2 + 1)) = some (.int .i64 (f i).2)) : Rd W W.heap.size 2 (some x) n (pairs ((List.range n).map f)) := by
  refine ⟨by rw [pairs_length]; simp, fun hn => ?_⟩
  obtain ⟨b, off, spot⟩ := x
  have h0 := (hc 0 hn).1
  have hs : spot = none := by simpa [Addr.add] using World.cell?_spot h0
  subst hs
  refine ⟨b, off, rfl, by simpa [Addr.add] using World.block_lt_of_cell? W _ h0, fun j u hu => ?_⟩
  have hj : j < n * 2 := by
    have := (List.getElem?_eq_some_iff.1 hu).1
    rw [pairs_length] at this
    simpa using this
  have e : ∀ j, (⟨b, off, none⟩ : Addr).add j = ⟨b, off + j, none⟩ := by intro j; unfold Addr.add; by_cases hj : j = 0 <;> simp [hj]
  have hk : ((List.range n).map f)[j / 2]? = some (f (j / 2)) := by simp [show j / 2 < n by omega]
  obtain ⟨p1, p2⟩ := pairs_at hk
  obtain ⟨c1, c2⟩ := hc (j / 2) (by omega)
  rw [e] at c1 c2
  rcases Nat.mod_two_eq_zero_or_one j with hm | hm
  · rw [show j / 2 * 2 = j by omega] at p1 c1
    rw [p1] at hu
    rw [c1, hu]
  · rw [show j / 2 * 2 + 1 = j by omega] at p2 c2
    rw [p2] at hu
    rw [c2, hu]

set_option maxRecDepth 100000 in
theorem openPairs {H : Type} {enc : TypeId × Value → H} {W : World} {base : Nat} {v : Value} {d : DataW H} {p : List MemPlace}
    (hv : Value.okWide Try.prog W .any base 22 v) (h : DataW.Trod enc Try.prog W 0 (fun _ => true) true 22 v d p) :
    ∃ a len cap zs, v = .slice a len cap ∧ len ≤ cap ∧ cap ≤ maxLen ∧ Rd W W.heap.size 2 a len (pairs zs) ∧ (∀ x ∈ zs, (Lit.int .i64 x.1).wf = true ∧ (Lit.int .i64 x.2).wf = true) ∧ len + 1 ≤ Rows.uptoBulk d ∧
      ((∀ n ∈ d.weights Try.prog 22, n ≤ reachBytes) → len * 16 ≤ 140737488351232) := by
  obtain ⟨a, len, cap, rfl⟩ := okWide_slice Try.underlying22 hv
  obtain ⟨fuel, hf⟩ := h
  rcases Deep.open_slice_pairs Try.underlying22 Try.underlying36 (by kernel_rfl) (by rfl) (by rfl) (by kernel_rfl) (by kernel_rfl) hf with ⟨hcs, hx⟩ | ⟨x, l, c, m, n, V0, V1, D0, D1, P0, P1, hcs, _, hl, hm, hmm, hx, hr⟩
  · simp [Value.cells] at hcs
    obtain ⟨rfl, rfl, rfl⟩ := hcs
    simp only [Prod.mk.injEq] at hx
    obtain ⟨rfl, rfl⟩ := hx
    exact ⟨none, 0, 0, [], rfl, by omega, by simp [maxLen], Rd.zero, by simp, bulk_one _, by omega⟩
  · simp [Value.cells] at hcs
    obtain ⟨rfl, rfl, rfl⟩ := hcs
    simp only [Prod.mk.injEq] at hx
    obtain ⟨rfl, rfl⟩ := hx
    simp only [if_true] at hmm
    subst hmm
    have hv0 : ∀ i, i < m → V0 i = .int .i64 (intOf (V0 i)) ∧ (Lit.int .i64 (intOf (V0 i))).wf = true ∧ V1 i = .int .i64 (intOf (V1 i)) ∧ (Lit.int .i64 (intOf (V1 i))).wf = true := by
      intro i hi
      obtain ⟨_, _, h1, h2⟩ := hr i hi
      obtain ⟨n1, e1, _, w1⟩ := DataW.trod_int Try.underlying3 h1
      obtain ⟨n2, e2, _, w2⟩ := DataW.trod_int Try.underlying3 h2
      simp at e1 e2
      rw [e1, e2]
      exact ⟨rfl, w1, rfl, w2⟩
    refine ⟨some x, len, m, (List.range len).map fun i => (intOf (V0 i), intOf (V1 i)), rfl, hl, hm, ?_, ?_, ?_, fun hw => ?_⟩
    · refine rd_of_pairs fun i hi => ?_
      obtain ⟨h1, h2, _⟩ := hr i (by omega)
      obtain ⟨q1, _, q2, _⟩ := hv0 i (by omega)
      rw [← q1, ← q2]
      exact ⟨h1, h2⟩
    · intro y hy
      obtain ⟨i, hi, rfl⟩ := List.mem_map.1 hy
      have := hv0 i (by have := List.mem_range.1 hi; omega)
      exact ⟨this.2.1, this.2.2.2⟩
    · have := bulk_slice ((List.range len).map fun i => DataW.agg [D0 i, D1 i]) ((List.range (m - len)).map fun j => DataW.agg [D0 (len + j), D1 (len + j)])
      simpa using this
    · have := hw (m * 16) (by simp [DataW.weights, Try.underlying22, bytesItem]; try omega)
      simp only [reachBytes] at this
      omega
end Go.Proofs.Ytiocgmeonfanmaa
