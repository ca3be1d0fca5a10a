/-
  Slices of floats and of uint64s: what they read as.
-/
import Derived.Test.YthefajbahbmohaaBase
namespace Go.Proofs.Ythefajbahbmohaa
open Go.RowKit
set_option linter.unusedVariables false
set_option linter.unusedSimpArgs false
theorem infoFl : (Try.prog.info? 53).map (fun i => (i.zero, i.size, i.bytes)) = some (some (.float .f64 0), 1, 8) := by kernel_rfl
theorem infoU : (Try.prog.info? 38).map (fun i => (i.zero, i.size, i.bytes)) = some (some (.int .u64 0), 1, 8) := by kernel_rfl
abbrev flts (zs : List Nat) : List Value := zs.map (Value.float .f64)
abbrev u64s (zs : List Int) : List Value := zs.map (Value.int .u64)
theorem Rd.fltx {w : World} {B n : Nat} {A : Option Addr} {zs : List Nat} {k : Nat} (h : Rd w B 1 A n (zs.map (Value.float .f64))) (hk : k < n) :
    ∃ b off x, A = some ⟨b, off, none⟩ ∧ b < B ∧ Hid (zs[k]? = some x) ∧ w.cell? ⟨b, off + k, none⟩ = some (Value.float .f64 x) := by
  obtain ⟨b, off, e, hb, hc⟩ := h.2 (by omega)
  have hl : zs.length = n := by have := h.1; simpa using this
  have hk' : k < zs.length := by omega
  exact ⟨b, off, zs[k], e, hb, List.getElem?_eq_getElem hk', hc k (Value.float .f64 zs[k]) (by simp [hk'])⟩
theorem Rd.flt {w : World} {B n : Nat} {A : Option Addr} {zs : List Nat} {k : Nat} (h : Rd w B 1 A n (zs.map (Value.float .f64))) (hk : k < n) :
    ∃ b off, A = some ⟨b, off, none⟩ ∧ b < B ∧ w.cell? ⟨b, off + k, none⟩ = some (Value.float .f64 (zs[k]?.getD 0)) := by
  obtain ⟨b, off, x, e, hb, hx, hc⟩ := h.fltx hk
  exact ⟨b, off, e, hb, by rw [hc, hx.out]; rfl⟩
theorem flts_one (zs : List Nat) : ∀ u ∈ flts zs, u.oneCell' = true := by intro u hu; simp [flts] at hu; obtain ⟨x, _, rfl⟩ := hu; rfl
theorem flt_snoc {zs : List Nat} {k : Nat} {x : Nat} (h : zs[k]? = some x) : flts (zs.take (k + 1)) = flts (zs.take k) ++ [Value.float .f64 x] := by
  obtain ⟨hk, rfl⟩ := List.getElem?_eq_some_iff.1 h
  rw [List.take_succ_eq_append_getElem hk, flts, List.map_append]; rfl
theorem Rd.u64x {w : World} {B n : Nat} {A : Option Addr} {zs : List Int} {k : Nat} (h : Rd w B 1 A n (zs.map (Value.int .u64))) (hk : k < n) :
    ∃ b off x, A = some ⟨b, off, none⟩ ∧ b < B ∧ Hid (zs[k]? = some x) ∧ w.cell? ⟨b, off + k, none⟩ = some (Value.int .u64 x) := by
  obtain ⟨b, off, e, hb, hc⟩ := h.2 (by omega)
  have hl : zs.length = n := by have := h.1; simpa using this
  have hk' : k < zs.length := by omega
  exact ⟨b, off, zs[k], e, hb, List.getElem?_eq_getElem hk', hc k (Value.int .u64 zs[k]) (by simp [hk'])⟩
theorem Rd.u64 {w : World} {B n : Nat} {A : Option Addr} {zs : List Int} {k : Nat} (h : Rd w B 1 A n (zs.map (Value.int .u64))) (hk : k < n) :
    ∃ b off, A = some ⟨b, off, none⟩ ∧ b < B ∧ w.cell? ⟨b, off + k, none⟩ = some (Value.int .u64 (zs[k]?.getD 0)) := by
  obtain ⟨b, off, x, e, hb, hx, hc⟩ := h.u64x hk
  exact ⟨b, off, e, hb, by rw [hc, hx.out]; rfl⟩
theorem u64s_one (zs : List Int) : ∀ u ∈ u64s zs, u.oneCell' = true := by intro u hu; simp [u64s] at hu; obtain ⟨x, _, rfl⟩ := hu; rfl
theorem u64_snoc {zs : List Int} {k : Nat} {x : Int} (h : zs[k]? = some x) : u64s (zs.take (k + 1)) = u64s (zs.take k) ++ [Value.int .u64 x] := by
  obtain ⟨hk, rfl⟩ := List.getElem?_eq_some_iff.1 h
  rw [List.take_succ_eq_append_getElem hk, u64s, List.map_append]; rfl
end Go.Proofs.Ythefajbahbmohaa
