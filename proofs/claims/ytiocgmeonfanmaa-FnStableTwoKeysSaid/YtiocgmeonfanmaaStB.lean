/-
  The row of items in the worlds of a sort: what a walk wants at a comparison and at an exchange.
-/
import Derived.Shelf.SlSortCmp.KitK
import Derived.WalkKit
import Derived.WalkLawsBesides
import Derived.Outline
import Derived.BigQuiet
import Derived.Deep.DeepMust
import Derived.Test.YtiocgmeonfanmaaCmp
import Derived.Test.YtiocgmeonfanmaaStP
namespace Go.Proofs.Ytiocgmeonfanmaa
open Go.RowKit Go.Sort Go.Shelf
set_option linter.unusedVariables false
set_option linter.unusedSimpArgs false
variable {α : Type} [Inhabited α]

/-- an element of the row is an item of two cells -/
def encI (it : α → Int × Int) (x : α) : List Value := [.int .i64 (it x).1, .int .i64 (it x).2]
omit [Inhabited α] in
theorem encI_len (it : α → Int × Int) (x : α) : (encI it x).length = 2 := rfl
omit [Inhabited α] in
theorem encI_one (it : α → Int × Int) (x : α) : ∀ v ∈ encI it x, v.oneCell' = true := by
  intro v hv
  simp [encI] at hv
  rcases hv with rfl | rfl <;> rfl
variable {it : α → Int × Int} {w0 W : World} {blk off : Nat} {d0 dk : Array α}
theorem rowI (hH : HoldsK (encI it) 2 w0 blk off d0) (hb : blk < w0.heap.size) : RowK (encI it) 2 w0 blk off d0 := ⟨encI_len it, encI_one it, hH, hb⟩
theorem SWI.cell0 (S : SWK (encI it) 2 w0 blk off dk W) (R : RowK (encI it) 2 w0 blk off d0) (hs : dk.size = d0.size) {i : Nat} (hi : i < dk.size) : W.cell? ⟨blk, off + i * 2, none⟩ = some (.int .i64 (it dk[i]!).1) ∧ W.frozen? ⟨blk, off + i * 2, none⟩ = false := by
  have h := S.holds R.hblk R.hH hs (i * 2) (by rw [size_flatK]; omega)
  rw [get_flatK _ _ _ _ (by omega), Nat.mul_mod_left, Nat.mul_div_cancel _ (by omega)] at h
  exact h
theorem SWI.cell1 (S : SWK (encI it) 2 w0 blk off dk W) (R : RowK (encI it) 2 w0 blk off d0) (hs : dk.size = d0.size) {i : Nat} (hi : i < dk.size) : W.cell? ⟨blk, off + i * 2 + 1, none⟩ = some (.int .i64 (it dk[i]!).2) ∧ W.frozen? ⟨blk, off + i * 2 + 1, none⟩ = false := by
  have h := S.holds R.hblk R.hH hs (i * 2 + 1) (by rw [size_flatK]; omega)
  rw [get_flatK _ _ _ _ (by omega), show (i * 2 + 1) % 2 = 1 by omega, show (i * 2 + 1) / 2 = i by omega] at h
  exact h
/-- an exchange of two places, cell by cell -/
theorem SWI.swapped (S : SWK (encI it) 2 w0 blk off dk W) (R : RowK (encI it) 2 w0 blk off d0) (i j : Nat) (hi : i < dk.size) (hj : j < dk.size) :
    SWK (encI it) 2 w0 blk off (swp dk i j) ((((W.setCell ⟨blk, off + i * 2, none⟩ (.int .i64 (it dk[j]!).1)).setCell ⟨blk, off + i * 2 + 1, none⟩ (.int .i64 (it dk[j]!).2)).setCell ⟨blk, off + j * 2, none⟩ (.int .i64 (it dk[i]!).1)).setCell ⟨blk, off + j * 2 + 1, none⟩ (.int .i64 (it dk[i]!).2)).drew := S.swapped R i j hi hj
/-- another block than the row's, and not a new one, is as it was -/
theorem SWI.block (S : SWK (encI it) 2 w0 blk off dk W) {b : Nat} (hb : b < w0.heap.size) (hne : b ≠ blk) : W.heap[b]? = w0.heap[b]? := by
  obtain ⟨n, os, rfl⟩ := S
  unfold sortWorldK putRowK putRow mapBlock grow Sort.ahead
  have hm : (w0.heap.modify blk (onCells (putCells id off (flatK (encI it) 2 dk)))).size = w0.heap.size := by simp
  simp only []
  rw [Array.getElem?_append_left (by rw [hm]; exact hb), Array.getElem?_modify, if_neg (fun e => hne e.symm)]
theorem SWI.rd (S : SWK (encI it) 2 w0 blk off dk W) {B sz n : Nat} {A : Option Addr} {cs : List Value} (hB : B ≤ blk) (hblk : blk < w0.heap.size) (h : Rd w0 B sz A n cs) : Rd W B sz A n cs :=
  h.keep fun p hp => World.cell?_of_block (SWI.block S (by omega) (by omega))
/-- what is told of the order: its table can be read and lies below the row -/
structure CmpB (s : Int) (A : Option Addr) (l c B : Nat) (zs : List Int) (w0 : World) (blk : Nat) : Prop where
  rd : Rd w0 B 1 A l (ints zs)
  hB : B ≤ blk
  hl : l ≤ 9223372036854775807
/-- the comparison as the sort sees it -/
def cfI (s : Int) (zs : List Int) (it : α → Int × Int) (x y : α) : Int := cmpO s zs (it x).1 (it y).1
def cvI (s : Int) (A : Option Addr) (l c : Nat) : Value := .func (.func 26) #[.agg #[.int .i64 s, .slice A l c]] #[]
theorem SWI.cmp {s : Int} {A : Option Addr} {l c B : Nat} {zs : List Int} (S : SWK (encI it) 2 w0 blk off dk W) (R : RowK (encI it) 2 w0 blk off d0) (C : CmpB s A l c B zs w0 blk) (x y : α) (n : Nat) (os : Array Obj) :
    Calls Try.prog 26 #[.agg #[.int .i64 s, .slice A l c], .agg #[.int .i64 (it x).1, .int .i64 (it x).2], .agg #[.int .i64 (it y).1, .int .i64 (it y).2]] (grow (W.drewN n) os) fun e w' => e = .returned (.int .i64 (cfI s zs it x y)) ∧ ∃ q os', w' = grow ((grow (W.drewN n) os).drewN q) os' := by
  have S2 := S.grown n os
  refine (compareI s A l c B zs (it x) (it y) _ (SWI.rd S2 C.hB R.hblk C.rd) (by have := S2.le; have := R.hblk; have := C.hB; omega) C.hl).mono ?_
  rintro e w' ⟨rfl, rfl⟩
  exact ⟨rfl, 0, #[_, _, _], rfl⟩
theorem egI : ∀ args w, (callFunc 26 args).run Try.prog w = .ok (.enter 26 args) w := enters_of Try.func26 (by kernel_rfl) rfl
theorem mixedI : Try.prog.follows .mixedOrders = true := by kernel_rfl
end Go.Proofs.Ytiocgmeonfanmaa
