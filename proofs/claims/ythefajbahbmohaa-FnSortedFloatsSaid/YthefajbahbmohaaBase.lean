/-
  Words for slices in memory: what a slice value reads as (nil and empty ones too), and how that is kept. No program in sight.
-/
import Derived.Below
import Derived.Laws.OwnMore
import Derived.Deep.Draws
import Derived.Deep.AppendLies
import Derived.RangeFuncBox
import Derived.KernelRfl
import Derived.Test.YthefajbahbmohaaProg
namespace Go.Proofs.Ythefajbahbmohaa
open Go.RowKit
set_option linter.unusedVariables false
set_option linter.unusedSimpArgs false

/-- The slice with address A and n elements of sz cells each holds the cells cs, in a block below B. Of the address of an empty slice nothing is said. -/
def Rd (w : World) (B sz : Nat) (A : Option Addr) (n : Nat) (cs : List Value) : Prop :=
  cs.length = n * sz ∧ (0 < n → ∃ b off, A = some ⟨b, off, none⟩ ∧ b < B ∧ ∀ j u, cs[j]? = some u → w.cell? ⟨b, off + j, none⟩ = some u)

section
variable {w w' : World} {B B' sz n : Nat} {A : Option Addr} {cs : List Value}
theorem Rd.zero : Rd w B sz A 0 [] := ⟨by simp, fun h => absurd h (by omega)⟩
theorem Rd.len (h : Rd w B sz A n cs) : cs.length = n * sz := h.1
theorem Rd.keep (h : Rd w B sz A n cs) (hk : ∀ p : Addr, p.block < B → w'.cell? p = w.cell? p) : Rd w' B sz A n cs :=
  ⟨h.1, fun hn => by
    obtain ⟨b, off, e, hb, hc⟩ := h.2 hn
    exact ⟨b, off, e, hb, fun j u hu => (hk ⟨b, off + j, none⟩ hb).trans (hc j u hu)⟩⟩
theorem Rd.more (h : Rd w B sz A n cs) (hB : B ≤ B') : Rd w B' sz A n cs :=
  ⟨h.1, fun hn => by
    obtain ⟨b, off, e, hb, hc⟩ := h.2 hn
    exact ⟨b, off, e, by omega, hc⟩⟩
theorem Rd.below (h : Rd w B sz A n cs) (hb : Below B w w') : Rd w' B sz A n cs := h.keep fun _ hp => hb.cell hp
theorem Rd.drew (h : Rd w B sz A n cs) : Rd w.drew B sz A n cs := h
theorem Rd.alloc (h : Rd w B sz A n cs) (hB : B ≤ w.heap.size) (o : Obj) : Rd (w.alloc o) B sz A n cs := h.keep fun p hp => World.cell?_alloc_lt w o p (by omega)
theorem Rd.grown (h : Rd w B sz A n cs) {row : Option Nat} (hg : w.grownBy w' row) (hB : B ≤ w.heap.size) (hr : ∀ g, row = some g → B ≤ g) : Rd w' B sz A n cs :=
  h.keep fun p hp => World.cell?_of_block (hg.block p.block (by omega) (fun e => by have := hr _ e.symm; omega))
theorem Rd.of_own {base : Nat} {e : TypeId} {c : Nat} (h : w.ownsRow base e sz (.slice A n c) n cs) : Rd w w.heap.size sz A n cs := by
  refine ⟨h.1, fun hn => ?_⟩
  rcases h.2 with ⟨hv, h0⟩ | ⟨g, cap, cur, hv, _, hh, _⟩
  · omega
  · have hA : A = some ⟨g, 0, none⟩ := by injection hv
    subst hA
    refine ⟨g, 0, rfl, (Array.getElem?_eq_some_iff.1 hh).1, fun j u hu => ?_⟩
    have := h.cells (g := g) rfl j u hu
    have e : (⟨g, 0, none⟩ : Addr).add j = ⟨g, 0 + j, none⟩ := by
      unfold Addr.add
      by_cases hj : j = 0 <;> simp [hj]
    rw [e] at this
    exact this
/-- a slice of one-cell integers: the cell of element k -/
theorem Rd.int {zs : List Int} {k : Nat} (h : Rd w B 1 A n (zs.map (Value.int .i64))) (hk : k < n) :
    ∃ b off, A = some ⟨b, off, none⟩ ∧ b < B ∧ w.cell? ⟨b, off + k, none⟩ = some (.int .i64 (zs[k]?.getD 0)) := by
  obtain ⟨b, off, e, hb, hc⟩ := h.2 (by omega)
  have hl : zs.length = n := by have := h.1; simpa using this
  refine ⟨b, off, e, hb, ?_⟩
  have hk' : k < zs.length := by omega
  rw [hc k (.int .i64 zs[k]) (by simp [hk'])]
  simp [hk']
/-- the same, the element under a name of its own -/
theorem Rd.intx {zs : List Int} {k : Nat} (h : Rd w B 1 A n (zs.map (Value.int .i64))) (hk : k < n) :
    ∃ b off x, A = some ⟨b, off, none⟩ ∧ b < B ∧ Hid (zs[k]? = some x) ∧ w.cell? ⟨b, off + k, none⟩ = some (.int .i64 x) := by
  obtain ⟨b, off, e, hb, hc⟩ := h.2 (by omega)
  have hl : zs.length = n := by have := h.1; simpa using this
  have hk' : k < zs.length := by omega
  exact ⟨b, off, zs[k], e, hb, List.getElem?_eq_getElem hk', hc k (.int .i64 zs[k]) (by simp [hk'])⟩
end

theorem infoInt : (Try.prog.info? 3).map (fun i => (i.zero, i.size, i.bytes)) = some (some (.int .i64 0), 1, 8) := by kernel_rfl
/-- the numbers of a list of integers as values -/
abbrev ints (zs : List Int) : List Value := zs.map (Value.int .i64)

theorem int_snoc {zs : List Int} {k : Nat} {x : Int} (h : zs[k]? = some x) : ints (zs.take (k + 1)) = ints (zs.take k) ++ [.int .i64 x] := by
  obtain ⟨hk, rfl⟩ := List.getElem?_eq_some_iff.1 h
  rw [List.take_succ_eq_append_getElem hk, ints, List.map_append]; rfl

/-- pairs of numbers as cells -/
def pairs (l : List (Int × Int)) : List Value := l.flatMap fun p => [.int .i64 p.1, .int .i64 p.2]
theorem pairs_append (l r : List (Int × Int)) : pairs (l ++ r) = pairs l ++ pairs r := by simp [pairs]
theorem pairs_one (p : Int × Int) : pairs [p] = [.int .i64 p.1, .int .i64 p.2] := by simp [pairs]
theorem pairs_nil : pairs [] = [] := rfl
theorem pairs_length (l : List (Int × Int)) : (pairs l).length = l.length * 2 := by
  induction l with
  | nil => rfl
  | cons p l ih => simp only [pairs, List.flatMap_cons, List.length_append, List.length_cons, List.length_nil] at *; omega

theorem pairs_at {l : List (Int × Int)} {k : Nat} {p : Int × Int} (h : l[k]? = some p) : (pairs l)[k * 2]? = some (.int .i64 p.1) ∧ (pairs l)[k * 2 + 1]? = some (.int .i64 p.2) := by
  induction l generalizing k with
  | nil => simp at h
  | cons q l ih =>
    cases k with
    | zero => simp at h; subst h; simp [pairs]
    | succ k =>
      have := ih (k := k) (by simpa using h)
      simp only [pairs, List.flatMap_cons] at *
      rw [show (k + 1) * 2 = k * 2 + 2 by omega, show k * 2 + 2 + 1 = k * 2 + 1 + 2 by omega]
      simpa using this
theorem Rd.pair {w : World} {B n k : Nat} {A : Option Addr} {l : List (Int × Int)} (h : Rd w B 2 A n (pairs l)) (hk : k < n) :
    ∃ b off x y, A = some ⟨b, off, none⟩ ∧ b < B ∧ Hid (l[k]? = some (x, y)) ∧ w.cell? ⟨b, off + k * 2, none⟩ = some (.int .i64 x) ∧ w.cell? ⟨b, off + k * 2 + 1, none⟩ = some (.int .i64 y) := by
  obtain ⟨b, off, e, hb, hc⟩ := h.2 (by omega)
  have hl : l.length = n := by have := h.1; rw [pairs_length] at this; omega
  have hk' : k < l.length := by omega
  have ha := pairs_at (List.getElem?_eq_getElem hk')
  exact ⟨b, off, l[k].1, l[k].2, e, hb, List.getElem?_eq_getElem hk', hc _ _ ha.1, by have := hc _ _ ha.2; rwa [← Nat.add_assoc] at this⟩
theorem pairs_snoc {l : List (Int × Int)} {k : Nat} {x y : Int} (h : l[k]? = some (x, y)) : pairs (l.take (k + 1)) = pairs (l.take k) ++ [.int .i64 x, .int .i64 y] := by
  obtain ⟨hk, he⟩ := List.getElem?_eq_some_iff.1 h
  rw [List.take_succ_eq_append_getElem hk, pairs_append, he, pairs_one]
theorem take_snoc' {α : Type} {zs : List α} {k : Nat} {x : α} (h : zs[k]? = some x) : zs.take (k + 1) = zs.take k ++ [x] := by
  obtain ⟨hk, rfl⟩ := List.getElem?_eq_some_iff.1 h
  exact List.take_succ_eq_append_getElem hk
theorem take_both' {α : Type} {xs ys : List α} {k : Nat} {x : α} (h : xs.take k = ys.take k) (hx : xs[k]? = some x) (hy : ys[k]? = some x) : xs.take (k + 1) = ys.take (k + 1) := by
  obtain ⟨h1, e1⟩ := List.getElem?_eq_some_iff.1 hx
  obtain ⟨h2, e2⟩ := List.getElem?_eq_some_iff.1 hy
  rw [List.take_succ_eq_append_getElem h1, List.take_succ_eq_append_getElem h2, h, e1, e2]

/-- the world as it was but for draws -/
def Drew (w w' : World) : Prop := ∃ n, w' = w.drewN n
theorem Drew.refl (w : World) : Drew w w := ⟨0, rfl⟩
theorem Drew.drewN {w w' : World} (h : Drew w w') (n : Nat) : Drew w (w'.drewN n) := by obtain ⟨m, rfl⟩ := h; exact ⟨m + n, by rw [World.drewN_drewN]⟩
theorem Drew.trans {w w' w'' : World} (h : Drew w w') (k : Drew w' w'') : Drew w w'' := by obtain ⟨n, rfl⟩ := k; exact h.drewN n
theorem Drew.heap {w w' : World} (h : Drew w w') : w'.heap = w.heap := by obtain ⟨m, rfl⟩ := h; rfl
theorem Drew.cell {w w' : World} (h : Drew w w') (p : Addr) : w'.cell? p = w.cell? p := by obtain ⟨m, rfl⟩ := h; rfl
theorem Drew.below {w w' : World} (h : Drew w w') (B : Nat) : Below B w w' := by obtain ⟨m, rfl⟩ := h; exact ⟨rfl, rfl, rfl, Nat.le_refl _, fun _ _ => rfl⟩
theorem Rd.ofDrew {w w' : World} {B sz n : Nat} {A : Option Addr} {cs : List Value} (h : Rd w B sz A n cs) (k : Drew w w') : Rd w' B sz A n cs := h.keep fun p _ => k.cell p
theorem own_drew {w w' : World} {base : Nat} {e : TypeId} {sz : Nat} {v : Value} {n : Nat} {xs : List Value} (h : w.ownsRow base e sz v n xs) (k : Drew w w') : w'.ownsRow base e sz v n xs := by obtain ⟨m, rfl⟩ := k; exact h
/-- slices as values; what each of them reads as -/
def rows (rs : List (Option Addr × Nat × Nat)) : List Value := rs.map fun r => .slice r.1 r.2.1 r.2.2
def RowsRd (w : World) (B : Nat) (rs : List (Option Addr × Nat × Nat)) (zz : List (List Int)) : Prop :=
  rs.length = zz.length ∧ ∀ (i : Nat) (r : Option Addr × Nat × Nat) (z : List Int), rs[i]? = some r → zz[i]? = some z → Rd w B 1 r.1 r.2.1 (ints z)
theorem rows_length (rs : List (Option Addr × Nat × Nat)) : (rows rs).length = rs.length := by simp [rows]
theorem rows_one (rs : List (Option Addr × Nat × Nat)) : ∀ u ∈ rows rs, u.oneCell' = true := by intro u hu; simp [rows] at hu; obtain ⟨_, _, _, _, rfl⟩ := hu; rfl
theorem RowsRd.below {w w' : World} {B : Nat} {rs : List (Option Addr × Nat × Nat)} {zz : List (List Int)} (h : RowsRd w B rs zz) (hb : Below B w w') : RowsRd w' B rs zz := ⟨h.1, fun i r z hr hz => (h.2 i r z hr hz).below hb⟩
theorem RowsRd.more {w : World} {B B' : Nat} {rs : List (Option Addr × Nat × Nat)} {zz : List (List Int)} (h : RowsRd w B rs zz) (hB : B ≤ B') : RowsRd w B' rs zz := ⟨h.1, fun i r z hr hz => (h.2 i r z hr hz).more hB⟩
theorem RowsRd.ofDrew {w w' : World} {B : Nat} {rs : List (Option Addr × Nat × Nat)} {zz : List (List Int)} (h : RowsRd w B rs zz) (hb : Drew w w') : RowsRd w' B rs zz := ⟨h.1, fun i r z hr hz => (h.2 i r z hr hz).ofDrew hb⟩
/-- row k of a slice of slices: its cell, and what it reads as -/
theorem RowsRd.at_ {w : World} {B B' n k : Nat} {A : Option Addr} {rs : List (Option Addr × Nat × Nat)} {zz : List (List Int)} (h : Rd w B 1 A n (rows rs)) (q : RowsRd w B' rs zz) (hk : k < n) :
    ∃ b off A' m c z, A = some ⟨b, off, none⟩ ∧ b < B ∧ Hid (rs[k]? = some (A', m, c)) ∧ Hid (zz[k]? = some z) ∧ w.cell? ⟨b, off + k, none⟩ = some (.slice A' m c) ∧ Rd w B' 1 A' m (ints z) := by
  obtain ⟨b, off, e, hb, hc⟩ := h.2 (by omega)
  have hl : rs.length = n := by have := h.1; rw [rows_length] at this; omega
  have hk' : k < rs.length := by omega
  have hk2 : k < zz.length := by rw [← q.1]; exact hk'
  have e1 : rs[k]? = some (rs[k].1, rs[k].2.1, rs[k].2.2) := List.getElem?_eq_getElem hk'
  exact ⟨b, off, rs[k].1, rs[k].2.1, rs[k].2.2, zz[k], e, hb, e1, List.getElem?_eq_getElem hk2, hc k _ (by simp [rows, hk']), q.2 k _ _ e1 (List.getElem?_eq_getElem hk2)⟩
theorem flatten_snoc {zz : List (List Int)} {k : Nat} {z : List Int} (h : zz[k]? = some z) : (zz.take (k + 1)).flatten = (zz.take k).flatten ++ z := by
  rw [take_snoc' h]; simp
theorem flatten_take_le (zz : List (List Int)) (k : Nat) : (zz.take k).flatten.length ≤ zz.flatten.length := by
  have : zz.flatten = (zz.take k).flatten ++ (zz.drop k).flatten := by rw [← List.flatten_append, List.take_append_drop]
  rw [this, List.length_append]; omega

/-- how many of n are walked at most 'most' -/
def firstN (n : Nat) (most : Int) : Nat := if 0 ≤ most ∧ most < n then most.toNat else n
theorem firstN_le (n : Nat) (most : Int) : firstN n most ≤ n := by unfold firstN; split <;> omega

theorem own_slice {w : World} {base : Nat} {e : TypeId} {sz : Nat} {v : Value} {n : Nat} {xs : List Value} (h : w.ownsRow base e sz v n xs) : ∃ A c, v = .slice A n c := by
  rcases h.2 with ⟨rfl, rfl⟩ | ⟨g, cap, cur, rfl, _⟩
  · exact ⟨none, 0, rfl⟩
  · exact ⟨_, _, rfl⟩
theorem own_base {w : World} {base base' : Nat} {e : TypeId} {sz : Nat} {v : Value} {n : Nat} {xs : List Value} (h : w.ownsRow base e sz v n xs) (hb : base' ≤ base) : w.ownsRow base' e sz v n xs :=
  ⟨h.1, h.2.imp id fun ⟨g, cap, cur, e1, e2, e3⟩ => ⟨g, cap, cur, e1, Nat.le_trans hb e2, e3⟩⟩
theorem bcell {B : Nat} {W w1 : World} (hb : Below B W w1) : (∀ b o, b < B → w1.cell? ⟨b, o, none⟩ = W.cell? ⟨b, o, none⟩) ∧ (∀ b o, b < B → w1.frozen? ⟨b, o, none⟩ = W.frozen? ⟨b, o, none⟩) :=
  ⟨fun b o h => hb.cell (p := ⟨b, o, none⟩) h, fun b o h => hb.frozen (p := ⟨b, o, none⟩) h⟩
theorem hide {p : Prop} (h : p) : Hid p := h
theorem unhide {p : Prop} (h : Hid p) : p := h
end Go.Proofs.Ythefajbahbmohaa
