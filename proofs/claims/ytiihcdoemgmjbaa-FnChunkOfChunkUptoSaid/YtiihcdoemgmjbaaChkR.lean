/-
  What a round of impl.Chunk keeps: the two boxes, the two rows of the call's own, the slices' copies. No walk.
-/
import Derived.Deep.RegionHeld
import Derived.Test.YtiihcdoemgmjbaaChkL
import Derived.Test.YtiihcdoemgmjbaaChkS
namespace Go.Proofs.Ytiihcdoemgmjbaa
open Go.RowKit Go.Shelf
set_option linter.unusedVariables false
set_option linter.unusedSimpArgs false

/-- rows of the call's own, none of them in the block of vr -/
def RowsAp (w : World) (base : Nat) (vr : Value) (rs : List (Option Addr × Nat × Nat)) (zz : List (List Int)) : Prop :=
  RowsOwn w base rs zz ∧ ∀ r ∈ rs, ∃ g, r.1 = some ⟨g, 0, none⟩ ∧ g < w.heap.size ∧ vr.ownBlock ≠ some g
theorem own_block_lt {w : World} {base : Nat} {e : TypeId} {sz : Nat} {v : Value} {n : Nat} {xs : List Value} (h : w.ownsRow base e sz v n xs) (g : Nat) (hg : v.ownBlock = some g) : base ≤ g ∧ g < w.heap.size ∧ ∃ o, w.heap[g]? = some o ∧ o.isCells = true := by
  rcases h.2 with ⟨rfl, _⟩ | ⟨g', cap, cur, rfl, h1, h2, _⟩
  · simp [Value.ownBlock] at hg
  · obtain rfl : g' = g := by simpa [Value.ownBlock] using hg
    exact ⟨h1, (Array.getElem?_eq_some_iff.1 h2).1, _, h2, rfl⟩
theorem RowsAp.kept {w w' : World} {base : Nat} {vr : Value} {rs : List (Option Addr × Nat × Nat)} {zz : List (List Int)} {row : Option Nat} (h : RowsAp w base vr rs zz) (hg : w.grownBy w' row)
    (hk : ∀ g v n xs, v.ownBlock = some g → vr.ownBlock ≠ some g → w.ownsRow base 3 1 v n xs → some g ≠ row) : RowsAp w' base vr rs zz := by
  refine ⟨⟨h.1.1, fun i r z h1 h2 => ?_⟩, fun r hr => ?_⟩
  · have ho := h.1.2 i r z h1 h2
    obtain ⟨g, e, _, hne⟩ := h.2 r (List.mem_of_getElem? h1)
    refine ho.kept hg (.inr ?_)
    rw [e]
    exact hk g (.slice (some ⟨g, 0, none⟩) r.2.1 r.2.2) _ _ rfl hne (by rw [e] at ho; exact ho)
  · obtain ⟨g, e, hlt, hne⟩ := h.2 r hr
    exact ⟨g, e, Nat.lt_of_lt_of_le hlt hg.size, hne⟩
theorem RowsAp.turn {w : World} {base : Nat} {vr vr' : Value} {rs : List (Option Addr × Nat × Nat)} {zz : List (List Int)} (h : RowsAp w base vr rs zz) (ht : vr'.ownBlock = vr.ownBlock ∨ ∃ g, vr'.ownBlock = some g ∧ w.heap.size ≤ g) : ∀ r ∈ rs, ∃ g, r.1 = some ⟨g, 0, none⟩ ∧ g < w.heap.size ∧ vr'.ownBlock ≠ some g := fun r hr => by
  obtain ⟨g, e, hlt, hne⟩ := h.2 r hr
  refine ⟨g, e, hlt, ?_⟩
  rcases ht with ht | ⟨g', ht, hge⟩
  · rw [ht]; exact hne
  · rw [ht]; intro e; simp at e; omega

/-- how things stand in a round: W the world at its start, w' now; uo, ur what the boxes hold; vo, vr the two rows as they are now -/
structure Hd (B : Nat) (uo ur vo : Value) (no : Nat) (xo : List Value) (vr : Value) (nr : Nat) (xr : List Value) (rs : List (Option Addr × Nat × Nat)) (zz : List (List Int)) (W w' : World) : Prop where
  bo : Boxed w' (B + 1) 23 uo
  br : Boxed w' (B + 1 + 1) 22 ur
  ro : w'.ownsRow (B + 6) 22 1 vo no xo
  rr : w'.ownsRow (B + 6) 3 1 vr nr xr
  ra : RowsAp w' (B + 6) vr rs zz
  ko : KeepsOthers W w'
  bl : Below B W w'
  kb : ∀ k, k < B + 6 → k ≠ B + 1 → k ≠ B + 1 + 1 → w'.heap[k]? = W.heap[k]?
  hs : W.heap.size ≤ w'.heap.size
  h6 : B + 6 ≤ W.heap.size

section
variable {B : Nat} {uo ur vo vo' : Value} {no no' : Nat} {xo xo' : List Value} {vr vr' : Value} {nr nr' : Nat} {xr xr' : List Value} {rs : List (Option Addr × Nat × Nat)} {zz : List (List Int)} {W w' w'' : World}
theorem Hd.none (h : Hd B uo ur vo no xo vr nr xr rs zz W w') (hg : w'.grownBy w'' none) : Hd B uo ur vo no xo vr nr xr rs zz W w'' where
  bo := h.bo.kept hg (by simp)
  br := h.br.kept hg (by simp)
  ro := h.ro.kept hg (by cases h : vo.ownBlock <;> simp)
  rr := h.rr.kept hg (by cases h : vr.ownBlock <;> simp)
  ra := h.ra.kept hg (by simp)
  ko := h.ko.trans (KeepsOthers.of_grownBy hg (by simp))
  bl := h.bl.grown hg (by have := h.hs; have := h.h6; omega) (by simp)
  kb := fun k hk h1 h2 => (hg.block k (by have := h.hs; have := h.h6; omega) (by simp)).trans (h.kb k hk h1 h2)
  hs := Nat.le_trans h.hs hg.size
  h6 := h.h6
theorem Hd.out (h : Hd B uo ur vo no xo vr nr xr rs zz W w') (hg : w'.grownBy w'' vo.ownBlock) (ho : w''.ownsRow (B + 6) 22 1 vo' no' xo') : Hd B uo ur vo' no' xo' vr nr xr rs zz W w'' where
  bo := h.bo.kept hg (fun e => by have := (own_block_lt h.ro _ e.symm).1; omega)
  br := h.br.kept hg (fun e => by have := (own_block_lt h.ro _ e.symm).1; omega)
  ro := ho
  rr := h.rr.kept hg (own_apart h.rr h.ro (by decide))
  ra := h.ra.kept hg (fun g v n xs e _ hv => by
    rcases own_apart hv h.ro (by decide) with h1 | h1
    · rw [h1] at e; cases e
    · rw [← e]; exact h1)
  ko := h.ko.trans (KeepsOthers.of_grownBy hg (fun j o e hj => by
    obtain ⟨_, _, o', ho', hc⟩ := own_block_lt h.ro j e
    rw [ho'] at hj; cases hj; exact hc))
  bl := h.bl.grown hg (by have := h.hs; have := h.h6; omega) (fun k e => by have := (own_block_lt h.ro _ e).1; omega)
  kb := fun k hk h1 h2 => (hg.block k (by have := h.hs; have := h.h6; omega) (fun e => by have := (own_block_lt h.ro _ e.symm).1; omega)).trans (h.kb k hk h1 h2)
  hs := Nat.le_trans h.hs hg.size
  h6 := h.h6
theorem Hd.room (h : Hd B uo ur vo no xo vr nr xr rs zz W w') (hg : w'.grownBy w'' vr.ownBlock) (hr : w''.ownsRow (B + 6) 3 1 vr' nr' xr') (ht : vr'.ownBlock = vr.ownBlock ∨ vr'.ownBlock = some w'.heap.size) : Hd B uo ur vo no xo vr' nr' xr' rs zz W w'' where
  bo := h.bo.kept hg (fun e => by have := (own_block_lt h.rr _ e.symm).1; omega)
  br := h.br.kept hg (fun e => by have := (own_block_lt h.rr _ e.symm).1; omega)
  ro := h.ro.kept hg (own_apart h.ro h.rr (by decide))
  rr := hr
  ra := by
    have h1 := h.ra.kept hg (fun g v n xs e hne hv e2 => hne e2.symm)
    exact ⟨h1.1, fun r hr => by
      obtain ⟨g, e, hlt, hne⟩ := h.ra.turn (vr' := vr') (ht.imp id fun h => ⟨_, h, Nat.le_refl _⟩) r hr
      exact ⟨g, e, Nat.lt_of_lt_of_le hlt hg.size, hne⟩⟩
  ko := h.ko.trans (KeepsOthers.of_grownBy hg (fun j o e hj => by
    obtain ⟨_, _, o', ho', hc⟩ := own_block_lt h.rr j e
    rw [ho'] at hj; cases hj; exact hc))
  bl := h.bl.grown hg (by have := h.hs; have := h.h6; omega) (fun k e => by have := (own_block_lt h.rr _ e).1; omega)
  kb := fun k hk h1 h2 => (hg.block k (by have := h.hs; have := h.h6; omega) (fun e => by have := (own_block_lt h.rr _ e.symm).1; omega)).trans (h.kb k hk h1 h2)
  hs := Nat.le_trans h.hs hg.size
  h6 := h.h6
/-- the two stores, and the new copy among the others -/
theorem Hd.stored {A2 : Option Addr} {m c2 g2 : Nat} {z : List Int} (h : Hd B uo ur vo no xo vr nr xr rs zz W w') (h2 : w'.ownsRow (B + 6) 3 1 (.slice A2 m c2) m (ints z)) (hA : A2 = some ⟨g2, 0, Option.none⟩) (hg2 : g2 < w'.heap.size) (hne : vr.ownBlock ≠ some g2) :
    Hd B vo vr vo no xo vr nr xr (rs ++ [(A2, m, c2)]) (zz ++ [z]) W ((w'.setCell ⟨B + 1, 0, Option.none⟩ vo).setCell ⟨B + 1 + 1, 0, Option.none⟩ vr) := by
  have hh := h.hs
  have h6 := h.h6
  have g1 := grownBy_setCell' w' (B + 1) vo
  have g2' := grownBy_setCell' (w'.setCell ⟨B + 1, 0, Option.none⟩ vo) (B + 1 + 1) vr
  have kp : ∀ {e : TypeId} {sz : Nat} {v : Value} {n : Nat} {xs : List Value}, w'.ownsRow (B + 6) e sz v n xs → ((w'.setCell ⟨B + 1, 0, Option.none⟩ vo).setCell ⟨B + 1 + 1, 0, Option.none⟩ vr).ownsRow (B + 6) e sz v n xs := fun hr =>
    ownsRow_setCell_below (ownsRow_setCell_below hr (by show B + 1 < _; omega) _) (by show B + 1 + 1 < _; omega) _
  refine { bo := ?_, br := ?_, ro := kp h.ro, rr := kp h.rr, ra := ?_, ko := (h.ko.trans (KeepsOthers.setCell _ _ _)).trans (KeepsOthers.setCell _ _ _), bl := ?_, kb := ?_, hs := by simpa using hh, h6 := h6 }
  · exact (h.bo.set vo).other (by omega) _
  · exact (h.br.other (by omega) _).set vr
  · refine ⟨RowsOwn.snoc' (h.ra.1.map fun v n xs => kp) (kp h2), fun r hr => ?_⟩
    rcases List.mem_append.1 hr with hr | hr
    · obtain ⟨g, e, hlt, hn⟩ := h.ra.2 r hr
      exact ⟨g, e, by simpa using hlt, hn⟩
    · simp at hr
      subst hr
      exact ⟨g2, hA, by simpa using hg2, hne⟩
  · exact (h.bl.setCell (p := ⟨B + 1, 0, Option.none⟩) (by show B ≤ B + 1; omega) _).setCell (p := ⟨B + 1 + 1, 0, Option.none⟩) (by show B ≤ B + 1 + 1; omega) _
  · exact fun k hk h1 h2 => ((Below.heap_setCell _ ⟨B + 1 + 1, 0, Option.none⟩ _ k (by show k ≠ B + 1 + 1; exact h2)).trans (Below.heap_setCell _ ⟨B + 1, 0, Option.none⟩ _ k (by show k ≠ B + 1; exact h1))).trans (h.kb k hk h1 h2)
end

/-- no operation of a region is a defer statement -/
def noDef (o : Oper) : Bool := match o.op with | .defer _ => false | _ => true
theorem noDef_all {ops : Array Oper} (h : ops.all noDef = true) : ∀ (i : Nat) (o : Oper), ops[i]? = some o → ∀ c, o.op ≠ .defer c := by
  intro i o ho c e
  have := (Array.all_eq_true'.1 h) o (Array.mem_of_getElem? ho)
  simp [noDef, e] at this

section
variable {P : Program} {ops : Array Oper} {o : Oper} {a : Act} {w : World} {K : Act → World → Prop} {Q : Exit → Act → World → Prop} {E : Prop}
theorem step_append_rd (hg : o.guard = none) (s x : Operand) (t : TypeId) (hop : o.op = Op.call { callee := Callee.builtin Builtin.append, args := #[s, x], argTypes := #[t, t] })
    (base : Nat) (e : TypeId) (i : TypeInfo) (z : Value) (size bytes : Nat) (ht : P.underlying t = some (.slice e)) (hi : P.info? e = some i) (hz : i.zero = some z)
    (hsize : i.size = size) (hby : i.bytes = bytes) (hzs : z.cells.size = size) (hsz : 0 < size)
    (v : Value) (n : Nat) (xs : List Value) (hs : a.eval s = v) (hown : w.ownsRow base e size v n xs)
    (B : Nat) (A : Option Addr) (m c : Nat) (news : List Value) (hx : a.eval x = .slice A m c) (hr : Rd w B size A m news) (h1 : ∀ u ∈ news, u.oneCell' = true)
    (h63 : n + m ≤ maxLen) (hbytes : (n + m) * bytes ≤ 140737488355328) (hbase : base ≤ w.heap.size)
    (h : ∀ v' w', w'.ownsRow base e size v' (n + m) (xs ++ news) → w.grownBy w' v.ownBlock → K (a.put o.dst v') w') :
    if Region.wanted o (yielded ops a.tmps) = true then Oper.wp P o a w K Q else E := by
  have hw : Region.wanted o (yielded ops a.tmps) = true := by simp [Region.wanted, hg]
  rw [if_pos hw]
  obtain ⟨v', w', hrun, h2, h3, h4⟩ := run_append_rd (P := P) w base t o.type e i z size bytes ht hi hz hsize hby hzs hsz v n xs hown B A m c news hr h1 h63 hbytes hbase
  unfold Oper.wp
  simp [execOp, hop, resolve, invoke, builtin, hs, hx, hrun, Result.andThen]
  exact h v' w' h2 h3
theorem step_append_at (hg : o.guard = none) (s x : Operand) (t : TypeId) (hop : o.op = Op.call { callee := Callee.builtin Builtin.append, args := #[s, x], argTypes := #[t, t] })
    (base : Nat) (e : TypeId) (i : TypeInfo) (z : Value) (size bytes : Nat) (ht : P.underlying t = some (.slice e)) (hi : P.info? e = some i) (hz : i.zero = some z)
    (hsize : i.size = size) (hby : i.bytes = bytes) (hzs : z.cells.size = size) (hsz : 0 < size)
    (v : Value) (n : Nat) (xs : List Value) (hs : a.eval s = v) (hown : w.ownsRow base e size v n xs)
    (ad : Addr) (m c : Nat) (news : List Value) (hx : a.eval x = .slice (some ad) m c) (hl : news.length = m * size) (hnews : ∀ j u, news[j]? = some u → w.cell? (ad.add j) = some u) (h1 : ∀ u ∈ news, u.oneCell' = true)
    (h63 : n + m ≤ maxLen) (hbytes : (n + m) * bytes ≤ 140737488355328) (hbase : base ≤ w.heap.size)
    (h : ∀ v' w', w'.ownsRow base e size v' (n + m) (xs ++ news) → w.grownBy w' v.ownBlock → (v'.ownBlock = v.ownBlock ∨ v'.ownBlock = some w.heap.size) → K (a.put o.dst v') w') :
    if Region.wanted o (yielded ops a.tmps) = true then Oper.wp P o a w K Q else E := by
  have hw : Region.wanted o (yielded ops a.tmps) = true := by simp [Region.wanted, hg]
  rw [if_pos hw]
  obtain ⟨v', w', hrun, h2, h3, _, h4⟩ := run_append_own_at (P := P) w base t o.type e i z size bytes ht hi hz hsize hby hzs hsz v n xs hown ad m c news hl hnews h1 h63 hbytes hbase
  unfold Oper.wp
  simp [execOp, hop, resolve, invoke, builtin, hs, hx, hrun, Result.andThen]
  exact h v' w' h2 h3 h4
end
/-- one cell in a block of its own, read as append asks -/
theorem one_cell {w : World} {g : Nat} {v : Value} {t : TypeId} (h : Boxed w g t v) : ∀ j u, [v][j]? = some u → w.cell? ((⟨g, 0, none⟩ : Addr).add j) = some u := by
  intro j u hu
  cases j with
  | zero => simp at hu; subst hu; rw [addr_add]; exact h.cell
  | succ j => simp at hu
end Go.Proofs.Ytiihcdoemgmjbaa
