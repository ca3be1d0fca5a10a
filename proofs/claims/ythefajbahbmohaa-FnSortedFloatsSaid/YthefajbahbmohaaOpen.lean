/-
  Opening the arguments of a law: what a value that was read as a datum holds in memory.
-/
import Derived.ProofKit
import Derived.OpenShut
import Derived.ChangeOld
import Derived.SizedLaws
import Derived.Deep.CondSized
import Derived.WalkKit
import Derived.Test.YthefajbahbmohaaRows
import Derived.Test.YthefajbahbmohaaBase
namespace Go.Proofs.Ythefajbahbmohaa
open Go.ChangeShapes Go.WideShapes Go.ChangeAt Go.RowKit
set_option linter.unusedVariables false
set_option linter.unusedSimpArgs false

theorem own : ownKnob Try.prog.godebug = none := by kernel_rfl
theorem laidOut : laidOutB Try.prog = true := by kernel_rfl

theorem sized_at {H : Type} {ts : List TypeId} {ds : List (DataW H)} (h : (DataW.weightsEach Try.prog ts ds).all (· ≤ reachBytes) = true) (j : Nat) {t : TypeId} {d : DataW H} (ht : ts[j]? = some t) (hd : ds[j]? = some d) :
    ∀ n ∈ d.weights Try.prog t, n ≤ reachBytes := fun n hn => by
  have := List.all_eq_true.1 h _ (DataW.weights_mem_each ht hd n hn)
  simpa using this
theorem bulk_one {H : Type} (d : DataW H) : 1 ≤ Rows.uptoBulk d := by
  cases d with
  | lit l => cases l <;> simp [Rows.uptoBulk]
  | nil => simp [Rows.uptoBulk]
  | ptr d => simp [Rows.uptoBulk]
  | slice elems spare => simp [Rows.uptoBulk]
  | agg parts => simp [Rows.uptoBulk]
  | iface t d => simp [Rows.uptoBulk]
  | map entries => simp [Rows.uptoBulk]
  | held h => simp [Rows.uptoBulk]
theorem bulk_length {H : Type} (l : List (DataW H)) : l.length ≤ Rows.uptoBulkAll l := by
  induction l with
  | nil => simp [Rows.uptoBulkAll]
  | cons x r ih => have := bulk_one x; simp only [Rows.uptoBulkAll, List.length_cons]; omega
theorem bulk_slice {H : Type} (elems spare : List (DataW H)) : elems.length + 1 ≤ Rows.uptoBulk (.slice elems spare) := by
  have h1 := bulk_length elems
  simp only [Rows.uptoBulk]; omega
theorem bulk_bound {H : Type} {l : List (DataW H)} (hk : Rows.uptoSmall H l = true) : Rows.uptoBulkAll l ≤ 1048576 := by
  simpa [Rows.uptoSmall] using hk

theorem bytesInt : Try.prog.bytesOf 3 = 8 := by kernel_rfl

theorem rd_of_cells {k : IntKind} {W : World} {x : Addr} {len : Nat} {zs : List Int} (hl : len ≤ zs.length) (hc : ∀ i, i < zs.length → W.cell? (x.add i) = some (.int k (zs.getD i 0))) : Rd W W.heap.size 1 (some x) len ((zs.take len).map (Value.int k)) := by
  refine ⟨by simp; omega, fun hn => ?_⟩
  obtain ⟨b, off, spot⟩ := x
  have h0 := hc 0 (by omega)
  have hs : spot = none := by simpa [Addr.add] using World.cell?_spot h0
  subst hs
  refine ⟨b, off, rfl, by simpa [Addr.add] using World.block_lt_of_cell? W _ h0, fun j u hu => ?_⟩
  have hj : j < len := by
    have := (List.getElem?_eq_some_iff.1 hu).1
    simp at this; omega
  have h := hc j (by omega)
  have e : (⟨b, off, none⟩ : Addr).add j = ⟨b, off + j, none⟩ := by unfold Addr.add; by_cases hj : j = 0 <;> simp [hj]
  rw [e] at h
  rw [h, ← hu]
  simp [show j < zs.length by omega, hj]

set_option maxRecDepth 100000 in
/-- a slice of ints that came in -/
theorem openInts {H : Type} {enc : TypeId × Value → H} {W : World} {base : Nat} {v : Value} {d : DataW H} {p : List MemPlace}
    (hv : Value.okWide Try.prog W .any base 22 v) (h : DataW.Trod enc Try.prog W 0 (fun _ => true) true 22 v d p) :
    ∃ a len cap zs, v = .slice a len cap ∧ len ≤ cap ∧ cap ≤ maxLen ∧ Rd W W.heap.size 1 a len (ints zs) ∧ (∀ x ∈ zs, (Lit.int .i64 x).wf = true) ∧ len + 1 ≤ Rows.uptoBulk d ∧
      ((∀ n ∈ d.weights Try.prog 22, n ≤ reachBytes) → len * 8 ≤ 140737488351232) := by
  obtain ⟨a, len, cap, rfl⟩ := okWide_slice Try.underlying22 hv
  obtain ⟨fuel, hf⟩ := h
  rcases open_ints Try.underlying22 Try.underlying3 (by kernel_rfl) hf with ⟨hcs, hx⟩ | ⟨x, l, c, zs, hcs, _, hl, hm, hz, hx, hcell, hwz⟩
  · simp [Value.cells] at hcs
    obtain ⟨rfl, rfl, rfl⟩ := hcs
    simp only [Prod.mk.injEq] at hx
    obtain ⟨rfl, rfl⟩ := hx
    exact ⟨none, 0, 0, [], rfl, by omega, by simp [maxLen], Rd.zero, by simp, bulk_one _, by omega⟩
  · simp [Value.cells] at hcs
    obtain ⟨rfl, rfl, rfl⟩ := hcs
    simp only [Prod.mk.injEq] at hx
    obtain ⟨rfl, rfl⟩ := hx
    have hz' : zs.length = cap := by simpa using hz
    have hlen : (lits (H := H) .i64 (zs.take len)).length = len := by simp [lits]; omega
    refine ⟨some x, len, cap, zs.take len, rfl, hl, hm, rd_of_cells (by omega) hcell, fun y hy => hwz y (List.mem_of_mem_take hy), ?_, fun hw => ?_⟩
    · have := bulk_slice (lits (H := H) .i64 (zs.take len)) (lits .i64 (zs.drop len))
      rw [hlen] at this; exact this
    · have := hw ((lits (H := H) .i64 (zs.take len)).length + (lits (H := H) .i64 (zs.drop len)).length |>.mul 8) (by simp [DataW.weights, Try.underlying22, bytesInt])
      rw [hlen] at this
      simp only [reachBytes, Nat.mul_eq] at this
      omega
theorem rd_of_fn {W : World} {x : Addr} {n : Nat} {f : Nat → Value} (hc : ∀ i, i < n → W.cell? (x.add i) = some (f i)) : Rd W W.heap.size 1 (some x) n ((List.range n).map f) := by
  refine ⟨by simp, fun hn => ?_⟩
  obtain ⟨b, off, spot⟩ := x
  have h0 := hc 0 hn
  have hs : spot = none := by simpa [Addr.add] using World.cell?_spot h0
  subst hs
  refine ⟨b, off, rfl, by simpa [Addr.add] using World.block_lt_of_cell? W _ h0, fun j u hu => ?_⟩
  have hj : j < n := by
    have := (List.getElem?_eq_some_iff.1 hu).1
    simpa using this
  have h := hc j hj
  have e : (⟨b, off, none⟩ : Addr).add j = ⟨b, off + j, none⟩ := by unfold Addr.add; by_cases hj : j = 0 <;> simp [hj]
  rw [e] at h
  rw [h, ← hu]
  simp [hj]
end Go.Proofs.Ythefajbahbmohaa
