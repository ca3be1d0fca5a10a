/-
  Slices of strings: what they read as.
-/
import Derived.Test.YthefajbahbmohaaBase
namespace Go.Proofs.Ythefajbahbmohaa
open Go.RowKit
set_option linter.unusedVariables false
set_option linter.unusedSimpArgs false
theorem infoStr : (Try.prog.info? 9).map (fun i => (i.zero, i.size, i.bytes)) = some (some (.string ByteArray.empty), 1, 16) := by kernel_rfl
abbrev strs (zs : List ByteArray) : List Value := zs.map Value.string
theorem str_snoc {zs : List ByteArray} {k : Nat} {x : ByteArray} (h : zs[k]? = some x) : strs (zs.take (k + 1)) = strs (zs.take k) ++ [.string x] := by
  obtain ⟨hk, rfl⟩ := List.getElem?_eq_some_iff.1 h
  rw [List.take_succ_eq_append_getElem hk, strs, List.map_append]; rfl
theorem strs_one (zs : List ByteArray) : ∀ u ∈ strs zs, u.oneCell' = true := by intro u hu; simp [strs] at hu; obtain ⟨x, _, rfl⟩ := hu; rfl
theorem Rd.strx {w : World} {B n : Nat} {A : Option Addr} {zs : List ByteArray} {k : Nat} (h : Rd w B 1 A n (zs.map Value.string)) (hk : k < n) :
    ∃ b off x, A = some ⟨b, off, none⟩ ∧ b < B ∧ Hid (zs[k]? = some x) ∧ w.cell? ⟨b, off + k, none⟩ = some (.string x) := by
  obtain ⟨b, off, e, hb, hc⟩ := h.2 (by omega)
  have hl : zs.length = n := by have := h.1; simpa using this
  have hk' : k < zs.length := by omega
  exact ⟨b, off, zs[k], e, hb, List.getElem?_eq_getElem hk', hc k (.string zs[k]) (by simp [hk'])⟩
theorem Rd.str {w : World} {B n : Nat} {A : Option Addr} {zs : List ByteArray} {k : Nat} (h : Rd w B 1 A n (zs.map Value.string)) (hk : k < n) :
    ∃ b off, A = some ⟨b, off, none⟩ ∧ b < B ∧ w.cell? ⟨b, off + k, none⟩ = some (.string (zs[k]?.getD ByteArray.empty)) := by
  obtain ⟨b, off, x, e, hb, hx, hc⟩ := h.strx hk
  exact ⟨b, off, e, hb, by rw [hc, hx.out]; rfl⟩
end Go.Proofs.Ythefajbahbmohaa
