/-
  maps.All, maps.Keys, maps.Values: what their iterators hand to yield, for every loop body that leaves maps and walks alone.
-/
import Derived.RangeFuncNested
import Derived.RangeFuncBox
import Derived.RangeFuncLeaves
import Derived.RangeFuncCalls
import Derived.RangeFuncOne
import Derived.Sort.MapsRangeIn
import Derived.Sort.KeysCollected
import Derived.WalkKit
import Derived.OwnWalkIn
import Derived.TacticsInMore
import Derived.RegionIn
import Derived.LoopNIn
import Derived.LoopIn
import Derived.Outline
import Derived.Maps.OwnIn
import Derived.Shelf.Abstract
import Derived.Test.YtcgcfenenkdhlaaMapP
namespace Go.Proofs.Ytcgcfenenkdhlaa
open Go.RowKit Go.Maps Go.Sort Go.Shelf Go
set_option linter.unusedVariables false
set_option linter.unusedSimpArgs false
attribute [local go_sem] Oper.semAt_some

def AllD (D0 : DW) (ps : List (Int × Int)) : Prop := (ps.map (·.1)).Nodup ∧ (∀ x, x ∈ ps.map (·.1) ↔ has D0 (kl x) = true) ∧ ∀ p ∈ ps, ValI D0 p
def PartD (D0 : DW) (ps : List (Int × Int)) : Prop := (ps.map (·.1)).Nodup ∧ (∀ x ∈ ps.map (·.1), has D0 (kl x) = true) ∧ ∀ p ∈ ps, ValI D0 p
theorem ownsMap_below {w w' : World} {k : TypeId} {R : Value → Option (DW × List MemPlace)} {b n B : Nat} {D : DW} (h : w.ownsMap Try.prog k R b n D) (hb : Below B w w') (hB : w.heap.size ≤ B) : w'.ownsMap Try.prog k R b n D := by
  have hbl := h.lt
  obtain ⟨es, clock, hbk, Ft, hs, hD⟩ := h
  exact ⟨es, clock, (hb.block b (by omega)).trans hbk, Ft, hs, hD⟩

set_option maxRecDepth 100000 in
set_option maxHeartbeats 1000000 in
theorem mall1_in (n : Nat) (hn : 1 ≤ n) (l Bm b nn : Nat) (D0 : DW) (J Jx : List (Int × Int) → World → Prop)
    (hY : ∀ pre x W, J pre W → pre.length < Maps.size D0 → YieldAt Fence.wide (n - 1) Try.prog l #[Value.int .i64 x.1, Value.int .i64 x.2] W fun e W' =>
      (e = .returned (.bool true) ∧ J (pre ++ [x]) W' ∧ KeepsWalks W W') ∨ (e = .returned (.bool false) ∧ Jx (pre ++ [x]) W'))
    (W : World) (hJ : AbidesFrom W.heap.size J) (hm : W.cell? ⟨Bm, 0, none⟩ = some (.map (some b))) (hown : W.ownsMap Try.prog 3 (plainElem Try.prog 3) b nn D0) (h0 : J [] W) :
    CallsIn Fence.wide n Try.prog 51 #[.func (.yield l) #[] #[], .pointer (some ⟨Bm, 0, none⟩)] W fun e W' => (∃ v, e = .returned v) ∧
      ((∃ ys, (∃ ps, AllD D0 ps ∧ ys = ps) ∧ J ys W') ∨ (∃ pre, (∃ ps, PartD D0 ps ∧ pre = ps) ∧ Jx pre W')) := by
  refine callsIn_of_wp Try.func51 rfl trivial ?_ rfl
  simp only [Try.ntmps51, List.size_toArray, List.length_cons, List.length_nil, Nat.reduceAdd, Nat.reduceSub, Array.replicate_succ, Array.replicate_zero, List.push_toArray, List.append_toArray, List.nil_append, List.cons_append]
  gi_wp2_with (first
    | (gi_at_range; refine wpListIn_range_own _ rfl _ 47 rfl 3 3 (Maps.int_keyed Try.underlying3) Try.underlying47 _ b nn _ rfl hown ?_; intro w0 hrg0 hg0 hs0)
    | gi_in)
  go_frame
  gi_loopw [3, 4] (fun _ _ wr => ∃ (left : Lit → Bool) (cnt : Nat) (ps : List (Int × Int)), wr.ranges Try.prog 3 (plainElem Try.prog 3) b W.heap.size nn D0 left cnt ∧ ps.length + cnt ≤ Maps.size D0 ∧ CollectedI D0 left (ps.map (·.1)) ∧ (∀ p ∈ ps, ValI D0 p) ∧ J ps wr)
    (fun _ _ wr => wr.rangeLeft b W.heap.size)
  case atStart =>
    exact ⟨_, _, [], hrg0, by simp, CollectedI.start D0, by simp, hJ [] W w0 none h0 hg0 (fun r e => by cases e)⟩
  case round =>
    obtain ⟨left, cnt, ps, hrg, hcs, hC, hV, hJs⟩ := hrel
    gi_wp2_with (first
      | (gi_at_next; refine wpListIn_next_ranges _ rfl _ rfl 3 (Maps.int_keyed Try.underlying3) (plainElem Try.prog 3) (Value.int .i64) (Value.int .i64) (fun key kl hk => by obtain ⟨x, hx, _⟩ := Maps.keyOf_i64 Try.underlying3 hk; exact ⟨x, hx⟩) (fun v y hv => by obtain ⟨c, rfl, _⟩ := plainElem_int_inv Try.underlying3 hv; exact ⟨c, rfl⟩) b W.heap.size nn _ _ _ rfl hrg ?_ ?_)
      | gi_in)
    · intro hc0 hl0
      gi_wp2
      go_end0
      exact ⟨⟨_, rfl⟩, .inl ⟨_, ⟨ps, ⟨hC.1, fun x => by rw [hC.2 x, hl0]; simp [kl], hV⟩, rfl⟩, hJs⟩⟩
    · intro x c kl' yd yp w2 cnt2 hkey hlk hv hat hrg2 hlt hg2 hs2 hen
      obtain ⟨x', ex, rfl, _⟩ := Maps.keyOf_i64 Try.underlying3 hkey
      obtain rfl : x = x' := by simpa using ex
      obtain ⟨c', ec, ez, _⟩ := plainElem_int_inv Try.underlying3 hv
      obtain rfl : c = c' := by simpa using ec
      obtain rfl : yd = .lit (.int .i64 c) := (Prod.mk.inj ez).1
      have hJ2 : J ps w2 := hJ _ wr w2 (some W.heap.size) hJs hg2 (fun r e => by cases e; exact ⟨Nat.le_refl _, hrg.iter_walk⟩)
      obtain ⟨fn, tmps, assign, body, hy, hR⟩ := hY ps (x, c) w2 hJ2 (by omega)
      try dsimp only at hy
      clear hs2
      gi_wp2
      refine hR.mono ?_
      have hC2 : CollectedI D0 (fun z => left z && !z.sameKey (.int .i64 x)) ((ps ++ [(x, c)]).map (·.1)) := by simpa using hC.step hlk hat
      have hV2 : ∀ p ∈ ps ++ [(x, c)], ValI D0 p := fun p hp => (List.mem_append.1 hp).elim (hV p) (fun e => by simp at e; subst e; exact hat)
      rintro e W3 (⟨rfl, hJ3, hk3⟩ | ⟨rfl, hJx3⟩)
      · gi_wp2
        have hrg3 := hrg2.of_walks hk3
        go_roundw
        case rel => exact ⟨_, cnt2, ps ++ [(x, c)], hrg3, by simp; omega, hC2, hV2, by exact hJ3⟩
        case measure => rw [hrg3.left_eq, hrg.left_eq]; exact hlt
      · gi_wp2
        refine bodyPost_ret (results_none rfl _ _ _) rfl ?_
        exact ⟨⟨_, rfl⟩, .inr ⟨_, ⟨ps ++ [(x, c)], ⟨hC2.1, fun y hy => ((hC2.2 y).1 hy).1, hV2⟩, by first | rfl | simp⟩, hJx3⟩⟩
set_option maxHeartbeats 1000000 in
theorem mall_in (n : Nat) (mb : Option Nat) (w : World) :
    CallsIn Fence.wide n Try.prog 35 #[.map mb] w fun e w' => e = .returned (.func (.func 51) #[] #[.pointer (some ⟨w.heap.size, 0, none⟩)]) ∧ w' = w.alloc (.cells #[.map mb] 47) := by
  have hmf : ∀ (fn : Fn) (first cap : Array Value) (w : World), (Instr.makeFunc fn first cap).run Try.prog w = .ok (.func fn first cap) w := fun _ _ _ _ => rfl
  refine callsIn_of_wp Try.func35 rfl trivial ?_ rfl
  simp only [Try.ntmps35, List.size_toArray, List.length_cons, List.length_nil, Nat.reduceAdd, Nat.reduceSub, Array.replicate_succ, Array.replicate_zero, List.push_toArray, List.append_toArray, List.nil_append, List.cons_append]
  gi_wp2
  go_ret
  exact ⟨rfl, rfl⟩
theorem mall_stops (n : Nat) (hn : 1 ≤ n) (Bm b nn : Nat) (D0 : DW) (w : World) (hBm : Bm < w.heap.size) (hm : w.cell? ⟨Bm, 0, none⟩ = some (.map (some b))) (hown : w.ownsMap Try.prog 3 (plainElem Try.prog 3) b nn D0) :
    SeqStopsK Fence.wide n Try.prog 51 #[.pointer (some ⟨Bm, 0, none⟩)] (fun x : (Int × Int) => #[Value.int .i64 x.1, Value.int .i64 x.2]) KeepsWalks (fun ys => ∃ ps, AllD D0 ps ∧ ys = ps) (fun pre => ∃ ps, PartD D0 ps ∧ pre = ps) (Maps.size D0) w := fun l J Jx W hW hJ _ hY h0 =>
  mall1_in n hn l Bm b nn D0 J Jx hY W hJ ((hW.cell (p := ⟨Bm, 0, none⟩) hBm).trans hm) (ownsMap_below hown hW (Nat.le_refl _)) h0

set_option maxRecDepth 100000 in
set_option maxHeartbeats 1000000 in
theorem mkeys1_in (n : Nat) (hn : 1 ≤ n) (l Bm b nn : Nat) (D0 : DW) (J Jx : List Int → World → Prop)
    (hY : ∀ pre x W, J pre W → pre.length < Maps.size D0 → YieldAt Fence.wide (n - 1) Try.prog l #[Value.int .i64 x] W fun e W' =>
      (e = .returned (.bool true) ∧ J (pre ++ [x]) W' ∧ KeepsWalks W W') ∨ (e = .returned (.bool false) ∧ Jx (pre ++ [x]) W'))
    (W : World) (hJ : AbidesFrom W.heap.size J) (hm : W.cell? ⟨Bm, 0, none⟩ = some (.map (some b))) (hown : W.ownsMap Try.prog 3 (plainElem Try.prog 3) b nn D0) (h0 : J [] W) :
    CallsIn Fence.wide n Try.prog 57 #[.func (.yield l) #[] #[], .pointer (some ⟨Bm, 0, none⟩)] W fun e W' => (∃ v, e = .returned v) ∧
      ((∃ ys, (∃ ps, AllD D0 ps ∧ ys = (ps.map (·.1))) ∧ J ys W') ∨ (∃ pre, (∃ ps, PartD D0 ps ∧ pre = (ps.map (·.1))) ∧ Jx pre W')) := by
  refine callsIn_of_wp Try.func57 rfl trivial ?_ rfl
  simp only [Try.ntmps57, List.size_toArray, List.length_cons, List.length_nil, Nat.reduceAdd, Nat.reduceSub, Array.replicate_succ, Array.replicate_zero, List.push_toArray, List.append_toArray, List.nil_append, List.cons_append]
  gi_wp2_with (first
    | (gi_at_range; refine wpListIn_range_own _ rfl _ 47 rfl 3 3 (Maps.int_keyed Try.underlying3) Try.underlying47 _ b nn _ rfl hown ?_; intro w0 hrg0 hg0 hs0)
    | gi_in)
  go_frame
  gi_loopw [3] (fun _ wr => ∃ (left : Lit → Bool) (cnt : Nat) (ps : List (Int × Int)), wr.ranges Try.prog 3 (plainElem Try.prog 3) b W.heap.size nn D0 left cnt ∧ ps.length + cnt ≤ Maps.size D0 ∧ CollectedI D0 left (ps.map (·.1)) ∧ (∀ p ∈ ps, ValI D0 p) ∧ J (ps.map (·.1)) wr)
    (fun _ wr => wr.rangeLeft b W.heap.size)
  case atStart =>
    exact ⟨_, _, [], hrg0, by simp, CollectedI.start D0, by simp, hJ [] W w0 none h0 hg0 (fun r e => by cases e)⟩
  case round =>
    obtain ⟨left, cnt, ps, hrg, hcs, hC, hV, hJs⟩ := hrel
    gi_wp2_with (first
      | (gi_at_next; refine wpListIn_next_ranges _ rfl _ rfl 3 (Maps.int_keyed Try.underlying3) (plainElem Try.prog 3) (Value.int .i64) (Value.int .i64) (fun key kl hk => by obtain ⟨x, hx, _⟩ := Maps.keyOf_i64 Try.underlying3 hk; exact ⟨x, hx⟩) (fun v y hv => by obtain ⟨c, rfl, _⟩ := plainElem_int_inv Try.underlying3 hv; exact ⟨c, rfl⟩) b W.heap.size nn _ _ _ rfl hrg ?_ ?_)
      | gi_in)
    · intro hc0 hl0
      gi_wp2
      go_end0
      exact ⟨⟨_, rfl⟩, .inl ⟨_, ⟨ps, ⟨hC.1, fun x => by rw [hC.2 x, hl0]; simp [kl], hV⟩, rfl⟩, hJs⟩⟩
    · intro x c kl' yd yp w2 cnt2 hkey hlk hv hat hrg2 hlt hg2 hs2 hen
      obtain ⟨x', ex, rfl, _⟩ := Maps.keyOf_i64 Try.underlying3 hkey
      obtain rfl : x = x' := by simpa using ex
      obtain ⟨c', ec, ez, _⟩ := plainElem_int_inv Try.underlying3 hv
      obtain rfl : c = c' := by simpa using ec
      obtain rfl : yd = .lit (.int .i64 c) := (Prod.mk.inj ez).1
      have hJ2 : J (ps.map (·.1)) w2 := hJ _ wr w2 (some W.heap.size) hJs hg2 (fun r e => by cases e; exact ⟨Nat.le_refl _, hrg.iter_walk⟩)
      obtain ⟨fn, tmps, assign, body, hy, hR⟩ := hY (ps.map (·.1)) x w2 hJ2 (by simp; omega)
      try dsimp only at hy
      clear hs2
      gi_wp2
      refine hR.mono ?_
      have hC2 : CollectedI D0 (fun z => left z && !z.sameKey (.int .i64 x)) ((ps ++ [(x, c)]).map (·.1)) := by simpa using hC.step hlk hat
      have hV2 : ∀ p ∈ ps ++ [(x, c)], ValI D0 p := fun p hp => (List.mem_append.1 hp).elim (hV p) (fun e => by simp at e; subst e; exact hat)
      rintro e W3 (⟨rfl, hJ3, hk3⟩ | ⟨rfl, hJx3⟩)
      · gi_wp2
        have hrg3 := hrg2.of_walks hk3
        go_roundw
        case rel => exact ⟨_, cnt2, ps ++ [(x, c)], hrg3, by simp; omega, hC2, hV2, by simpa using hJ3⟩
        case measure => rw [hrg3.left_eq, hrg.left_eq]; exact hlt
      · gi_wp2
        refine bodyPost_ret (results_none rfl _ _ _) rfl ?_
        exact ⟨⟨_, rfl⟩, .inr ⟨_, ⟨ps ++ [(x, c)], ⟨hC2.1, fun y hy => ((hC2.2 y).1 hy).1, hV2⟩, by first | rfl | simp⟩, hJx3⟩⟩
set_option maxHeartbeats 1000000 in
theorem mkeys_in (n : Nat) (mb : Option Nat) (w : World) :
    CallsIn Fence.wide n Try.prog 39 #[.map mb] w fun e w' => e = .returned (.func (.func 57) #[] #[.pointer (some ⟨w.heap.size, 0, none⟩)]) ∧ w' = w.alloc (.cells #[.map mb] 47) := by
  have hmf : ∀ (fn : Fn) (first cap : Array Value) (w : World), (Instr.makeFunc fn first cap).run Try.prog w = .ok (.func fn first cap) w := fun _ _ _ _ => rfl
  refine callsIn_of_wp Try.func39 rfl trivial ?_ rfl
  simp only [Try.ntmps39, List.size_toArray, List.length_cons, List.length_nil, Nat.reduceAdd, Nat.reduceSub, Array.replicate_succ, Array.replicate_zero, List.push_toArray, List.append_toArray, List.nil_append, List.cons_append]
  gi_wp2
  go_ret
  exact ⟨rfl, rfl⟩
theorem mkeys_stops (n : Nat) (hn : 1 ≤ n) (Bm b nn : Nat) (D0 : DW) (w : World) (hBm : Bm < w.heap.size) (hm : w.cell? ⟨Bm, 0, none⟩ = some (.map (some b))) (hown : w.ownsMap Try.prog 3 (plainElem Try.prog 3) b nn D0) :
    SeqStopsK Fence.wide n Try.prog 57 #[.pointer (some ⟨Bm, 0, none⟩)] (fun x : Int => #[Value.int .i64 x]) KeepsWalks (fun ys => ∃ ps, AllD D0 ps ∧ ys = (ps.map (·.1))) (fun pre => ∃ ps, PartD D0 ps ∧ pre = (ps.map (·.1))) (Maps.size D0) w := fun l J Jx W hW hJ _ hY h0 =>
  mkeys1_in n hn l Bm b nn D0 J Jx hY W hJ ((hW.cell (p := ⟨Bm, 0, none⟩) hBm).trans hm) (ownsMap_below hown hW (Nat.le_refl _)) h0

set_option maxRecDepth 100000 in
set_option maxHeartbeats 1000000 in
theorem mvals1_in (n : Nat) (hn : 1 ≤ n) (l Bm b nn : Nat) (D0 : DW) (J Jx : List Int → World → Prop)
    (hY : ∀ pre x W, J pre W → pre.length < Maps.size D0 → YieldAt Fence.wide (n - 1) Try.prog l #[Value.int .i64 x] W fun e W' =>
      (e = .returned (.bool true) ∧ J (pre ++ [x]) W' ∧ KeepsWalks W W') ∨ (e = .returned (.bool false) ∧ Jx (pre ++ [x]) W'))
    (W : World) (hJ : AbidesFrom W.heap.size J) (hm : W.cell? ⟨Bm, 0, none⟩ = some (.map (some b))) (hown : W.ownsMap Try.prog 3 (plainElem Try.prog 3) b nn D0) (h0 : J [] W) :
    CallsIn Fence.wide n Try.prog 61 #[.func (.yield l) #[] #[], .pointer (some ⟨Bm, 0, none⟩)] W fun e W' => (∃ v, e = .returned v) ∧
      ((∃ ys, (∃ ps, AllD D0 ps ∧ ys = (ps.map (·.2))) ∧ J ys W') ∨ (∃ pre, (∃ ps, PartD D0 ps ∧ pre = (ps.map (·.2))) ∧ Jx pre W')) := by
  refine callsIn_of_wp Try.func61 rfl trivial ?_ rfl
  simp only [Try.ntmps61, List.size_toArray, List.length_cons, List.length_nil, Nat.reduceAdd, Nat.reduceSub, Array.replicate_succ, Array.replicate_zero, List.push_toArray, List.append_toArray, List.nil_append, List.cons_append]
  gi_wp2_with (first
    | (gi_at_range; refine wpListIn_range_own _ rfl _ 47 rfl 3 3 (Maps.int_keyed Try.underlying3) Try.underlying47 _ b nn _ rfl hown ?_; intro w0 hrg0 hg0 hs0)
    | gi_in)
  go_frame
  gi_loopw [4] (fun _ wr => ∃ (left : Lit → Bool) (cnt : Nat) (ps : List (Int × Int)), wr.ranges Try.prog 3 (plainElem Try.prog 3) b W.heap.size nn D0 left cnt ∧ ps.length + cnt ≤ Maps.size D0 ∧ CollectedI D0 left (ps.map (·.1)) ∧ (∀ p ∈ ps, ValI D0 p) ∧ J (ps.map (·.2)) wr)
    (fun _ wr => wr.rangeLeft b W.heap.size)
  case atStart =>
    exact ⟨_, _, [], hrg0, by simp, CollectedI.start D0, by simp, hJ [] W w0 none h0 hg0 (fun r e => by cases e)⟩
  case round =>
    obtain ⟨left, cnt, ps, hrg, hcs, hC, hV, hJs⟩ := hrel
    gi_wp2_with (first
      | (gi_at_next; refine wpListIn_next_ranges _ rfl _ rfl 3 (Maps.int_keyed Try.underlying3) (plainElem Try.prog 3) (Value.int .i64) (Value.int .i64) (fun key kl hk => by obtain ⟨x, hx, _⟩ := Maps.keyOf_i64 Try.underlying3 hk; exact ⟨x, hx⟩) (fun v y hv => by obtain ⟨c, rfl, _⟩ := plainElem_int_inv Try.underlying3 hv; exact ⟨c, rfl⟩) b W.heap.size nn _ _ _ rfl hrg ?_ ?_)
      | gi_in)
    · intro hc0 hl0
      gi_wp2
      go_end0
      exact ⟨⟨_, rfl⟩, .inl ⟨_, ⟨ps, ⟨hC.1, fun x => by rw [hC.2 x, hl0]; simp [kl], hV⟩, rfl⟩, hJs⟩⟩
    · intro x c kl' yd yp w2 cnt2 hkey hlk hv hat hrg2 hlt hg2 hs2 hen
      obtain ⟨x', ex, rfl, _⟩ := Maps.keyOf_i64 Try.underlying3 hkey
      obtain rfl : x = x' := by simpa using ex
      obtain ⟨c', ec, ez, _⟩ := plainElem_int_inv Try.underlying3 hv
      obtain rfl : c = c' := by simpa using ec
      obtain rfl : yd = .lit (.int .i64 c) := (Prod.mk.inj ez).1
      have hJ2 : J (ps.map (·.2)) w2 := hJ _ wr w2 (some W.heap.size) hJs hg2 (fun r e => by cases e; exact ⟨Nat.le_refl _, hrg.iter_walk⟩)
      obtain ⟨fn, tmps, assign, body, hy, hR⟩ := hY (ps.map (·.2)) c w2 hJ2 (by simp; omega)
      try dsimp only at hy
      clear hs2
      gi_wp2
      refine hR.mono ?_
      have hC2 : CollectedI D0 (fun z => left z && !z.sameKey (.int .i64 x)) ((ps ++ [(x, c)]).map (·.1)) := by simpa using hC.step hlk hat
      have hV2 : ∀ p ∈ ps ++ [(x, c)], ValI D0 p := fun p hp => (List.mem_append.1 hp).elim (hV p) (fun e => by simp at e; subst e; exact hat)
      rintro e W3 (⟨rfl, hJ3, hk3⟩ | ⟨rfl, hJx3⟩)
      · gi_wp2
        have hrg3 := hrg2.of_walks hk3
        go_roundw
        case rel => exact ⟨_, cnt2, ps ++ [(x, c)], hrg3, by simp; omega, hC2, hV2, by simpa using hJ3⟩
        case measure => rw [hrg3.left_eq, hrg.left_eq]; exact hlt
      · gi_wp2
        refine bodyPost_ret (results_none rfl _ _ _) rfl ?_
        exact ⟨⟨_, rfl⟩, .inr ⟨_, ⟨ps ++ [(x, c)], ⟨hC2.1, fun y hy => ((hC2.2 y).1 hy).1, hV2⟩, by first | rfl | simp⟩, hJx3⟩⟩
set_option maxHeartbeats 1000000 in
theorem mvals_in (n : Nat) (mb : Option Nat) (w : World) :
    CallsIn Fence.wide n Try.prog 43 #[.map mb] w fun e w' => e = .returned (.func (.func 61) #[] #[.pointer (some ⟨w.heap.size, 0, none⟩)]) ∧ w' = w.alloc (.cells #[.map mb] 47) := by
  have hmf : ∀ (fn : Fn) (first cap : Array Value) (w : World), (Instr.makeFunc fn first cap).run Try.prog w = .ok (.func fn first cap) w := fun _ _ _ _ => rfl
  refine callsIn_of_wp Try.func43 rfl trivial ?_ rfl
  simp only [Try.ntmps43, List.size_toArray, List.length_cons, List.length_nil, Nat.reduceAdd, Nat.reduceSub, Array.replicate_succ, Array.replicate_zero, List.push_toArray, List.append_toArray, List.nil_append, List.cons_append]
  gi_wp2
  go_ret
  exact ⟨rfl, rfl⟩
theorem mvals_stops (n : Nat) (hn : 1 ≤ n) (Bm b nn : Nat) (D0 : DW) (w : World) (hBm : Bm < w.heap.size) (hm : w.cell? ⟨Bm, 0, none⟩ = some (.map (some b))) (hown : w.ownsMap Try.prog 3 (plainElem Try.prog 3) b nn D0) :
    SeqStopsK Fence.wide n Try.prog 61 #[.pointer (some ⟨Bm, 0, none⟩)] (fun x : Int => #[Value.int .i64 x]) KeepsWalks (fun ys => ∃ ps, AllD D0 ps ∧ ys = (ps.map (·.2))) (fun pre => ∃ ps, PartD D0 ps ∧ pre = (ps.map (·.2))) (Maps.size D0) w := fun l J Jx W hW hJ _ hY h0 =>
  mvals1_in n hn l Bm b nn D0 J Jx hY W hJ ((hW.cell (p := ⟨Bm, 0, none⟩) hBm).trans hm) (ownsMap_below hown hW (Nat.le_refl _)) h0
end Go.Proofs.Ytcgcfenenkdhlaa
