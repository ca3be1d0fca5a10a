/-
  append(v, src...) where v is a row of the call's own and src is any slice that can be read: nil, empty or not.
-/
import Derived.Maps.AppendAt
import Derived.OwnWalk
import Derived.OwnWalkIn
import Derived.Laws.CopyOwn
import Derived.Laws.Rows
import Derived.Test.YthefajbahbmohaaBase
namespace Go.Proofs.Ythefajbahbmohaa
open Go.RowKit
set_option linter.unusedVariables false
set_option linter.unusedSimpArgs false

theorem addr_add (b off j : Nat) : (⟨b, off, none⟩ : Addr).add j = ⟨b, off + j, none⟩ := by
  unfold Addr.add; by_cases hj : j = 0 <;> simp [hj]
/-- the cells of a slice that can be read, at the address as the laws of append and copy ask them -/
theorem Rd.src {w : World} {B sz n : Nat} {A : Option Addr} {cs : List Value} (h : Rd w B sz A n cs) (ad : Addr) (hA : A = some ad) : ∀ j u, cs[j]? = some u → w.cell? (ad.add j) = some u := by
  intro j u hu
  rcases Nat.eq_zero_or_pos n with h0 | h0
  · have : cs = [] := List.eq_nil_of_length_eq_zero (by rw [h.1, h0]; simp)
    subst this; simp at hu
  · obtain ⟨b, off, e, _, hc⟩ := h.2 h0
    rw [e] at hA
    injection hA with hA
    subst hA
    rw [addr_add]
    exact hc j u hu

theorem Rd.takeN {w : World} {B n k : Nat} {A : Option Addr} {cs : List Value} (h : Rd w B 1 A n cs) (hk : k ≤ n) : Rd w B 1 A k (cs.take k) := by
  refine ⟨by have := h.1; simp; omega, fun h0 => ?_⟩
  obtain ⟨b, off, e, hb, hc⟩ := h.2 (by omega)
  exact ⟨b, off, e, hb, fun j u hu => hc j u (by rw [List.getElem?_take] at hu; split at hu <;> simp_all)⟩
theorem Rd.dropN {w : World} {B n k : Nat} {A : Option Addr} {cs : List Value} (h : Rd w B 1 A n cs) (hk : k ≤ n) : Rd w B 1 (A.map (fun x => x.add k)) (n - k) (cs.drop k) := by
  refine ⟨by have := h.1; simp; omega, fun h0 => ?_⟩
  obtain ⟨b, off, e, hb, hc⟩ := h.2 (by omega)
  subst e
  exact ⟨b, off + k, by simp [addr_add], hb, fun j u hu => by rw [Nat.add_assoc]; exact hc (k + j) u (by rwa [List.getElem?_drop] at hu)⟩
theorem Rd.none_ {w : World} {B n : Nat} {A : Option Addr} {cs : List Value} (hn : n = 0) (hc : cs = []) : Rd w B 1 A n cs := by subst hn; subst hc; exact Rd.zero
theorem rows_take (rs : List (Option Addr × Nat × Nat)) (k : Nat) : rows (rs.take k) = (rows rs).take k := by simp [rows, List.map_take]
theorem rows_drop (rs : List (Option Addr × Nat × Nat)) (k : Nat) : rows (rs.drop k) = (rows rs).drop k := by simp [rows, List.map_drop]
theorem RowsRd.takeN {w : World} {B : Nat} {rs : List (Option Addr × Nat × Nat)} {zz : List (List Int)} (h : RowsRd w B rs zz) (k : Nat) : RowsRd w B (rs.take k) (zz.take k) := by
  refine ⟨by simp [h.1], fun i r z h1 h2 => h.2 i r z ?_ ?_⟩
  · rw [List.getElem?_take] at h1; split at h1 <;> simp_all
  · rw [List.getElem?_take] at h2; split at h2 <;> simp_all
theorem RowsRd.dropN {w : World} {B : Nat} {rs : List (Option Addr × Nat × Nat)} {zz : List (List Int)} (h : RowsRd w B rs zz) (k : Nat) : RowsRd w B (rs.drop k) (zz.drop k) :=
  ⟨by simp [h.1], fun i r z h1 h2 => h.2 (k + i) r z (by rwa [List.getElem?_drop] at h1) (by rwa [List.getElem?_drop] at h2)⟩
/-- a new block of cells, read as a slice -/
theorem Rd.fresh (w : World) (cs : List Value) (t : TypeId) (n : Nat) (hn : cs.length = n) : Rd (w.alloc (.cells cs.toArray t)) (w.heap.size + 1) 1 (some ⟨w.heap.size, 0, none⟩) n cs := by
  refine ⟨by simp [hn], fun _ => ⟨w.heap.size, 0, rfl, by omega, fun j u hu => ?_⟩⟩
  rw [cell_of_row (w.alloc (.cells cs.toArray t)) w.heap.size (0 + j) cs.toArray t (0, 0) (heap_alloc_new w _)]
  simpa using hu

section
variable {P : Program} (w : World)
theorem run_append_rd (base : Nat) (t ty e : TypeId) (i : TypeInfo) (z : Value) (size bytes : Nat) (ht : P.underlying t = some (.slice e)) (hi : P.info? e = some i) (hz : i.zero = some z)
    (hsize : i.size = size) (hby : i.bytes = bytes) (hzs : z.cells.size = size) (hsz : 0 < size)
    (v : Value) (n : Nat) (xs : List Value) (hown : w.ownsRow base e size v n xs)
    (B : Nat) (A : Option Addr) (m c : Nat) (news : List Value) (hr : Rd w B size A m news) (h1 : ∀ u ∈ news, u.oneCell' = true)
    (h63 : n + m ≤ maxLen) (hbytes : (n + m) * bytes ≤ 140737488355328) (hbase : base ≤ w.heap.size) :
    ∃ v' w', (Builtin.append_ #[t, t] ty #[v, .slice A m c]).run P w = .ok v' w' ∧ w'.ownsRow base e size v' (n + m) (xs ++ news) ∧ w.grownBy w' v.ownBlock ∧
      (v' = .slice none 0 0 ↔ v = .slice none 0 0 ∧ m = 0) := by
  cases A with
  | none =>
    have hm : m = 0 := by
      rcases Nat.eq_zero_or_pos m with h0 | h0
      · exact h0
      · obtain ⟨b, off, h, _⟩ := hr.2 h0; cases h
    subst hm
    have hn : news = [] := List.eq_nil_of_length_eq_zero (by simpa using hr.1)
    subst hn
    refine ⟨v, w, ?_, by simpa using hown, ⟨rfl, rfl, rfl, Nat.le_refl _, fun _ _ _ => rfl⟩, by simp⟩
    rcases hown.2 with ⟨rfl, rfl⟩ | ⟨g, cap, cur, rfl, _, _, hnc, _⟩
    · simp [Builtin.append_, run_underlying ht, sizeOf, typeInfo, hi, Builtin.lenOf, Builtin.firstCells]
    · simp [Builtin.append_, run_underlying ht, sizeOf, typeInfo, hi, Builtin.lenOf, Builtin.firstCells, hnc, storeCells]
  | some ad => exact run_append_own (P := P) w base t ty e i z size bytes ht hi hz hsize hby hzs hsz v n xs hown ad m c news hr.1 (hr.src ad rfl) h1 h63 hbytes hbase

theorem wpList_append_rd {ops : Array Oper} {rest : List Oper} {o : Oper} {a : Act} {Q : Exit → Act → World → Prop} (hgd : o.guard = none) (s x : Operand) (t : TypeId)
    (ho : o.op = .call { callee := .builtin .append, args := #[s, x], argTypes := #[t, t] })
    (base : Nat) (e : TypeId) (i : TypeInfo) (z : Value) (size bytes : Nat) (ht : P.underlying t = some (.slice e)) (hi : P.info? e = some i) (hz : i.zero = some z)
    (hsize : i.size = size) (hby : i.bytes = bytes) (hzs : z.cells.size = size) (hsz : 0 < size)
    (v : Value) (n : Nat) (xs : List Value) (hs : a.eval s = v) (hown : w.ownsRow base e size v n xs)
    (B : Nat) (A : Option Addr) (m c : Nat) (news : List Value) (hx : a.eval x = .slice A m c) (hr : Rd w B size A m news) (h1 : ∀ u ∈ news, u.oneCell' = true)
    (h63 : n + m ≤ maxLen) (hbytes : (n + m) * bytes ≤ 140737488355328) (hbase : base ≤ w.heap.size)
    (h : ∀ v' w', w'.ownsRow base e size v' (n + m) (xs ++ news) → w.grownBy w' v.ownBlock → (v' = .slice none 0 0 ↔ v = .slice none 0 0 ∧ m = 0) → wpList P ops Q rest (a.put o.dst v') w') : wpList P ops Q (o :: rest) a w := by
  refine wpList_plain hgd fun K hK => ?_
  obtain ⟨v', w', hrun, h2, h3, h4⟩ := run_append_rd (P := P) w base t o.type e i z size bytes ht hi hz hsize hby hzs hsz v n xs hown B A m c news hr h1 h63 hbytes hbase
  unfold Oper.wp execOp
  simp only [ho, resolve, invoke, builtin, Sem.run_bind, Sem.run_pure, Result.andThen_ok, List.map_toArray, List.map_cons, List.map_nil, hs, hx, hrun]
  exact hK _ _ (h v' w' h2 h3 h4)
end
/-- whether a result is nil: it was to be nil, and there is nothing -/
def flagOf (isNil : Bool) (n : Nat) : Bool := isNil && decide (n = 0)
theorem ints_one (zs : List Int) : ∀ u ∈ ints zs, u.oneCell' = true := by intro u hu; simp [ints] at hu; obtain ⟨x, _, rfl⟩ := hu; rfl
theorem pairs_onecell (zs : List (Int × Int)) : ∀ u ∈ pairs zs, u.oneCell' = true := by
  intro u hu; simp [pairs] at hu; obtain ⟨x, y, _, rfl | rfl⟩ := hu <;> rfl
/-- the nil slice, or none of its own: what is below stays -/
theorem below_grown_own {w wr w1 : World} {B base : Nat} {e : TypeId} {sz : Nat} {v : Value} {n : Nat} {xs : List Value} (hb : Below B w wr) (hB : B ≤ wr.heap.size) (hbase : B ≤ base) (h : wr.ownsRow base e sz v n xs) (hg : wr.grownBy w1 v.ownBlock) : Below B w w1 :=
  hb.grown hg hB fun k e => Nat.le_trans hbase (h.lt k e).1
end Go.Proofs.Ythefajbahbmohaa
