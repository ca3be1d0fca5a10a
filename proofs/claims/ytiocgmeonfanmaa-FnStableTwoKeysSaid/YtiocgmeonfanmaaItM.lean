/-
  impl.sequence, slices.AppendSeq and slices.Collect of items.
-/
import Derived.RangeFuncNested
import Derived.RangeFuncBox
import Derived.RangeFuncLeaves
import Derived.Shelf.Abstract
import Derived.WalkKit
import Derived.OwnWalkIn
import Derived.TacticsInMore
import Derived.LoopNIn
import Derived.LoopIn
import Derived.Maps.AppendAt
import Derived.WalkSpells
import Derived.WalkLawsBesides
import Derived.Outline
import Derived.Deep.DeepMust
import Derived.Test.YtiocgmeonfanmaaBase
namespace Go.Proofs.Ytiocgmeonfanmaa
open Go.RowKit Go.Shelf
set_option linter.unusedVariables false
set_option linter.unusedSimpArgs false
attribute [local go_sem] Oper.semAt_some

theorem infoItem : (Try.prog.info? 36).map (fun i => (i.zero, i.size, i.bytes)) = some (some (.agg #[.int .i64 0, .int .i64 0]), 2, 16) := by kernel_rfl
/-- a block of two cells -/
def Boxed2 (W : World) (B : Nat) (t : TypeId) (u v : Value) : Prop := W.heap[B]? = some (.cells #[u, v] t (0, 0))
theorem Boxed2.new (W : World) (t : TypeId) (u v : Value) : Boxed2 (W.alloc (.cells #[u, v] t)) W.heap.size t u v := World.alloc_heap_new W _
theorem Boxed2.cell0 {W : World} {B : Nat} {t : TypeId} {u v : Value} (h : Boxed2 W B t u v) : W.cell? ⟨B, 0, none⟩ = some u := by simp [World.cell?, show W.heap[B]? = _ from h]
theorem Boxed2.cell1 {W : World} {B : Nat} {t : TypeId} {u v : Value} (h : Boxed2 W B t u v) : W.cell? ⟨B, 1, none⟩ = some v := by simp [World.cell?, show W.heap[B]? = _ from h]
theorem boxed2_own {β : Type} (B : Nat) (t : TypeId) (f g : β → Value) : Own (fun s W => Boxed2 W B t (f s) (g s)) := fun s X Y row hs hg hrow =>
  (hg.block B (Array.getElem?_eq_some_iff.1 hs).1 (fun e' => by obtain ⟨o, ho, hc⟩ := hrow B e'.symm; rw [show X.heap[B]? = _ from hs] at ho; cases ho; cases hc)).trans hs

set_option maxRecDepth 100000 in
set_option maxHeartbeats 2000000 in
theorem seqM1_in (n : Nat) (hn : 1 ≤ n) (l Bs n₀ len cap : Nat) (A : Option Addr) (zs : List (Int × Int)) (hreach : len * 16 ≤ 140737488351232) (J Jx : List (Int × Int) → World → Prop) (hJa : ∀ pre W o, J pre W → J pre (W.alloc o))
    (hY : ∀ pre x W, J pre W → pre.length < len → YieldAt Fence.wide (n - 1) Try.prog l #[.agg #[.int .i64 x.1, .int .i64 x.2]] W fun e W' =>
      (e = .returned (.bool true) ∧ J (pre ++ [x]) W' ∧ Below n₀ W W') ∨ (e = .returned (.bool false) ∧ Jx (pre ++ [x]) W'))
    (W : World) (hn₀ : n₀ ≤ W.heap.size) (hBs : W.cell? ⟨Bs, 0, none⟩ = some (.slice A len cap)) (hc : Rd W n₀ 2 A len (pairs zs)) (h0 : J [] W) :
    CallsIn Fence.wide n Try.prog 34 #[.func (.yield l) #[] #[], .pointer (some ⟨Bs, 0, none⟩)] W fun e W' => (∃ v, e = .returned v) ∧
      ((∃ ys, ys = zs ∧ J ys W') ∨ (∃ pre, (∃ k, pre = zs.take k) ∧ Jx pre W')) := by
  have hzl : zs.length = len := by have := hc.1; rw [pairs_length] at this; omega
  have HZ := hide hzl
  clear hzl
  refine callsIn_of_wp Try.func34 rfl trivial ?_ rfl
  simp only [Try.ntmps34, List.size_toArray, List.length_cons, List.length_nil, Nat.reduceAdd, Nat.reduceSub, Array.replicate_succ, Array.replicate_zero, List.push_toArray, List.append_toArray, List.nil_append, List.cons_append]
  gi_wp2
  gi_loopw [7] (fun i wr => ∃ (k : Nat), k ≤ len ∧ i = .int .i64 k ∧ J (zs.take k) wr ∧ Below n₀ W wr) (fun i _ => len - (RowKit.intOf i).toNat)
  case atStart => exact ⟨0, Nat.zero_le _, rfl, h0, Below.refl _ _⟩
  case round =>
    obtain ⟨k, hk, rfl, hJs, hnx⟩ := hrel
    by_cases hlt : k < len
    · obtain ⟨b, off, x, y, rfl, hb, hx, hc1, hc2⟩ := (hc.below hnx).pair hlt
      obtain ⟨fn, tmps, assign, body, hy, hR⟩ := hY _ (x, y) (wr.alloc (.cells #[.int .i64 x, .int .i64 y] 36)) (hJa _ _ _ hJs) (by have := HZ.out; rw [List.length_take]; omega)
      dsimp only at hy
      have hsw := hnx.size
      gi_wp2
      refine hR.mono ?_
      rintro e W3 (⟨rfl, hJ3, hk3⟩ | ⟨rfl, hJx3⟩)
      · have hB3 : Below n₀ W W3 := (hnx.alloc (by omega) _).trans hk3
        gi_wp2
        go_roundw
        case rel => exact ⟨k + 1, by omega, by go_num, by rw [take_snoc' hx.out]; exact hJ3, hB3⟩
        case measure => simp [RowKit.intOf]; omega
      · gi_wp2
        refine bodyPost_ret (results_none rfl _ _ _) rfl ?_
        exact ⟨⟨_, rfl⟩, .inr ⟨_, ⟨k + 1, by rw [take_snoc' hx.out]⟩, hJx3⟩⟩
    · obtain rfl : k = len := by omega
      gi_wp2
      go_end0
      exact ⟨⟨_, rfl⟩, .inl ⟨_, List.take_of_length_le (by rw [HZ.out]; exact Nat.le_refl _), hJs⟩⟩
set_option maxHeartbeats 1000000 in
theorem seqM_in (n : Nat) (a : Option Addr) (len cap : Nat) (w : World) :
    CallsIn Fence.wide n Try.prog 25 #[.slice a len cap] w fun e w' => e = .returned (.func (.func 34) #[] #[.pointer (some ⟨w.heap.size, 0, none⟩)]) ∧ w' = w.alloc (.cells #[.slice a len cap] 22) := by
  refine callsIn_of_wp Try.func25 rfl trivial ?_ rfl
  simp only [Try.ntmps25, List.size_toArray, List.length_cons, List.length_nil, Nat.reduceAdd, Nat.reduceSub, Array.replicate_succ, Array.replicate_zero, List.push_toArray, List.append_toArray, List.nil_append, List.cons_append]
  gi_wp2
  go_ret
  exact ⟨rfl, rfl⟩
theorem seqM_stops (n : Nat) (hn : 1 ≤ n) (Bs n₀ len cap : Nat) (A : Option Addr) (zs : List (Int × Int)) (hreach : len * 16 ≤ 140737488351232) (w : World) (hBs : Bs < w.heap.size) (hn₀ : n₀ ≤ w.heap.size) (hc : w.cell? ⟨Bs, 0, none⟩ = some (.slice A len cap)) (hI : Rd w n₀ 2 A len (pairs zs)) :
    SeqStopsK Fence.wide n Try.prog 34 #[.pointer (some ⟨Bs, 0, none⟩)] (fun x : Int × Int => #[.agg #[Value.int .i64 x.1, Value.int .i64 x.2]]) (Below n₀) (fun ys => ys = zs) (fun pre => ∃ k, pre = zs.take k) len w := fun l J Jx W hW hJ _ hY h0 =>
  seqM1_in n hn l Bs n₀ len cap A zs hreach J Jx (fun pre W' o h => hJ pre W' _ none h (World.grownBy_alloc W' o none) (fun _ e => by cases e)) hY W (Nat.le_trans hn₀ hW.size) ((hW.cell (p := ⟨Bs, 0, none⟩) hBs).trans hc) (hI.below (hW.mono hn₀)) h0

set_option maxRecDepth 100000 in
set_option maxHeartbeats 2000000 in
theorem appM_in (n : Nat) (hn : 1 ≤ n) (gf : Nat) (lb : Array Value) (eg : ∀ args w, (callFunc gf args).run Try.prog w = .ok (.enter gf args) w)
    (n₀ N : Nat) (zs : List (Int × Int)) (Sp : List (Int × Int) → Prop) (w : World) (hseq : SeqStopsK Fence.wide (n - 1) Try.prog gf lb (fun x : Int × Int => #[.agg #[Value.int .i64 x.1, Value.int .i64 x.2]]) (Below n₀) (fun ys => ys = zs) Sp N w)
    (hn₀ : n₀ ≤ w.heap.size) (hb : N * 16 ≤ 140737488355328) :
    CallsIn Fence.wide n Try.prog 39 #[.slice none 0 0, .func (.func gf) #[] lb] w fun e W' => ∃ A' c', e = .returned (.slice A' zs.length c') ∧ W'.ownsRow n₀ 36 2 (.slice A' zs.length c') zs.length (pairs zs) ∧
      (A'.isNone = decide (zs = [])) ∧ Below n₀ w W' := by
  obtain ⟨i0, hi, hz0, hz1, hz2⟩ := info_parts infoItem
  refine callsIn_of_wp_marks Try.func39 rfl trivial ?_ rfl
  simp only [Try.ntmps39, List.size_toArray, List.length_cons, List.length_nil, Nat.reduceAdd, Nat.reduceSub, Array.replicate_succ, Array.replicate_zero, List.push_toArray, List.append_toArray, List.nil_append, List.cons_append]
  gi_wp2
  have bO := Boxed.new w 22 (.slice none 0 0)
  have hB0 : Below n₀ w (w.alloc (.cells #[.slice none 0 0] 22)) := (Below.refl _ w).alloc hn₀ _
  refine wpIn_rangeFunc_ownH rfl hn (gf := gf) (lb := lb) rfl trivial eg hseq belowK_t (belowK_b (by simp; omega)) ((Below.refl _ w).alloc (Nat.le_refl _) _) (fun _ => rfl)
    (fun pre W => (∃ v, Boxed W w.heap.size 22 v ∧ W.ownsRow n₀ 36 2 v pre.length (pairs pre) ∧ (∃ A' c', v = .slice A' pre.length c' ∧ (A'.isNone = decide (pre = [])))) ∧ Below n₀ w W)
    (fun _ _ _ => False)
    (OwnFrom.and (Own.from (holdsRow_own n₀ w.heap.size 22 36 2 (fun pre => pre.length) (fun pre => pairs pre) (fun pre v => ∃ A' c', v = .slice A' pre.length c' ∧ (A'.isNone = decide (pre = [])))) _) (ownFrom_below hn₀ (by simp; omega)))
    (fun _ _ _ _ _ hs _ _ => hs)
    ⟨⟨_, bO, World.ownsRow_nil _ _ _ _, none, 0, rfl, by simp⟩, hB0⟩
    (fun x a' W => ∃ Bx, w.heap.size < Bx ∧ Boxed2 W Bx 36 (.int .i64 x.1) (.int .i64 x.2) ∧ a' = { tmps := #[.slice none 0 0, .func (.func gf) #[] lb, .pointer (some ⟨w.heap.size, 0, none⟩), undef, .slice none 0 0, .pointer (some ⟨Bx, 0, none⟩), .func (.func gf) #[] lb, .agg #[.int .i64 x.1, .int .i64 x.2], undef, undef, undef, undef, undef], defers := [] })
    (fun x a' _ X Y row hs hg hr => by obtain ⟨Bx, h1, h2, h3⟩ := hs; exact ⟨Bx, h1, boxed2_own Bx 36 (fun (_ : Unit) => Value.int .i64 x.1) (fun _ => Value.int .i64 x.2) () X Y row h2 hg (fun r e => (hr r e).2), h3⟩)
    ?assign ?body ?done ?stop
  case assign =>
    rintro l pre x W K ⟨⟨v, hv, hrow, hA⟩, hB⟩ hK
    gi_wp2
    exact hK _ _ ((KeepsOthers.alloc _ _).from _) ((Below.refl _ W).alloc (by have := hB.size; omega) _) ⟨⟨v, hv.alloc _, hrow.alloc _, hA⟩, hB.alloc (by have := hB.size; omega) _⟩ ⟨W.heap.size, hv.lt, Boxed2.new W 36 _ _, rfl⟩
  case body =>
    rintro l pre x a' W hl ⟨r, hr⟩ ⟨⟨v, hv, hrow, A', c', rfl, hnil⟩, hB⟩ ⟨Bx, hBx, bX, rfl⟩ hlt
    have hc := hv.cell
    have cx0 := bX.cell0
    have cx1 := bX.cell1
    have HN := hide hnil
    clear hnil
    gi_wp2_with (gi_at_builtin; go_must (refine wpListIn_append_own _ rfl _ _ 22 rfl n₀ 36 i0 (.agg #[.int .i64 0, .int .i64 0]) 2 16 Try.underlying22 hi hz0 hz1 hz2 rfl (by decide) _ _ _ rfl (hrow.alloc _) ⟨W.heap.size, 0, none⟩ 1 1 [.int .i64 x.1, .int .i64 x.2] rfl rfl (cell_two_new _ _ _ _) (by simp [Value.oneCell']) (by unfold maxLen; omega) (by omega) (by have := hB.size; simp; omega) ?_); intro v' w2 hown' hgrow _; obtain ⟨g', cap', rfl⟩ := ownsRow_succ hown'; obtain ⟨hv1, hv2, hr2, hk2, hb2⟩ := hv.appended (by decide) hrow (by have := hB.size; omega) hn₀ hown' hgrow; have hc1 := hv1.cell; have hf1 := hv1.frozen)
    exact ⟨hk2.from _, hb2, ⟨_, hv2, by rw [pairs_append, pairs_one]; simpa using hr2, some ⟨g', 0, none⟩, cap', by simp, by simp⟩, hB.trans hb2⟩
  case done =>
    rintro D ys W hD rfl ⟨⟨v, hv, hrow, A', c', rfl, hnil⟩, hB⟩ hK
    have hc := hv.cell
    have HN := hide hnil
    clear hnil
    gi_wp2
    refine ⟨by simp, .inl ⟨_, _, rfl, run_takeDeferred hK, ?_⟩⟩
    exact ⟨_, results_tmp rfl _ _ _, A', c', rfl, ownsRow_putObj hrow _ hK rfl, HN.out, hB.trans (belowK_b (w := w) hn₀ W D _ _ (by simp at hD; omega) hK rfl rfl)⟩
  case stop =>
    rintro D c pre W _ _ h _
    exact h.elim

set_option maxHeartbeats 1000000 in
theorem collM_in (n : Nat) (hn : 2 ≤ n) (gf : Nat) (lb : Array Value) (eg : ∀ args w, (callFunc gf args).run Try.prog w = .ok (.enter gf args) w)
    (n₀ N : Nat) (zs : List (Int × Int)) (Sp : List (Int × Int) → Prop) (w : World) (hseq : SeqStopsK Fence.wide (n - 1 - 1) Try.prog gf lb (fun x : Int × Int => #[.agg #[Value.int .i64 x.1, Value.int .i64 x.2]]) (Below n₀) (fun ys => ys = zs) Sp N w)
    (hn₀ : n₀ ≤ w.heap.size) (hb : N * 16 ≤ 140737488355328) :
    CallsIn Fence.wide n Try.prog 32 #[.func (.func gf) #[] lb] w fun e W' => ∃ A' c', e = .returned (.slice A' zs.length c') ∧ W'.ownsRow n₀ 36 2 (.slice A' zs.length c') zs.length (pairs zs) ∧
      (A'.isNone = decide (zs = [])) ∧ Below n₀ w W' := by
  have hn1 : 1 ≤ n := by omega
  have HC := hide (appM_in (n - 1) (by omega) gf lb eg n₀ N zs Sp w hseq hn₀ hb)
  clear hseq
  refine callsIn_of_wp Try.func32 rfl trivial ?_ rfl
  simp only [Try.ntmps32, List.size_toArray, List.length_cons, List.length_nil, Nat.reduceAdd, Nat.reduceSub, Array.replicate_succ, Array.replicate_zero, List.push_toArray, List.append_toArray, List.nil_append, List.cons_append]
  gi_wp2_with (refine ⟨trivial, ?_⟩; gi_at_call 39; refine (CallsIn.mono (unhide HC) ?_); rintro e w1 ⟨A', c', rfl, ho, hnl, hbl⟩; have HO := hide ho; have HL := hide hnl; clear ho hnl)
  go_ret
  exact ⟨A', c', rfl, HO.out, HL.out, hbl⟩
end Go.Proofs.Ytiocgmeonfanmaa
