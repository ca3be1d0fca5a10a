/-
  impl.table, impl.pairs, maps.Insert, maps.Collect.
-/
import Derived.WalkLawsBesides
import Derived.Deep.DeepMust
import Derived.Maps.OwnOps
import Derived.Test.YtcgcfenenkdhlaaMapIt
namespace Go.Proofs.Ytcgcfenenkdhlaa
open Go.RowKit Go.Maps Go.Sort Go.Shelf
set_option linter.unusedVariables false
set_option linter.unusedSimpArgs false
attribute [local go_sem] Oper.semAt_some

def WF (z : List (Int × Int)) : Prop := ∀ x ∈ z, (Lit.int .i64 x.1).wf = true ∧ (Lit.int .i64 x.2).wf = true

set_option maxRecDepth 100000 in
set_option maxHeartbeats 2000000 in
theorem implTable (a : Option Addr) (len cap : Nat) (zs : List (Int × Int)) (hl : len * 16 ≤ 140737488351232) (hf : WF zs) (w : World) (hI : Rd w w.heap.size 2 a len (pairs zs)) :
    Calls Try.prog 36 #[.slice a len cap] w fun e w' => e = .returned (.map (some w.heap.size)) ∧ w'.ownsMap Try.prog 3 (plainElem Try.prog 3) w.heap.size len (mp zs) ∧ Below w.heap.size w w' := by
  have hzl : zs.length = len := by have := hI.1; rw [pairs_length] at this; omega
  have HZ := hide hzl
  have HF := hide hf
  clear hzl hf
  have hmm := @run_makeMap Try.prog
  go_enter Try.func36, Try.ntmps36
  go_wp2
  go_loopw [9] (fun i wr => ∃ k : Nat, k ≤ len ∧ i = .int .i64 k ∧ wr.ownsMap Try.prog 3 (plainElem Try.prog 3) w.heap.size k (mp (zs.take k)) ∧ Below w.heap.size w wr) (fun i _ => len - (RowKit.intOf i).toNat)
  case atStart => exact ⟨0, Nat.zero_le _, rfl, World.ownsMap_made w _ _ _, (Below.refl _ w).alloc (Nat.le_refl _) _⟩
  case round =>
    obtain ⟨k, hk, rfl, hown, hB⟩ := hrel
    by_cases hlt : k < len
    · obtain ⟨b, off, x, y, rfl, hb, hx, hc1, hc2⟩ := (hI.below hB).pair hlt
      obtain ⟨hwx, hwy⟩ := HF.out _ (List.mem_of_getElem? hx.out)
      have hkx := Maps.keyOf_int_mk Try.underlying3 hwx
      have hlm := hown.lt
      go_wp2_with (at_mapUpdate; go_must (refine wpList_mapUpdate_own _ rfl _ _ _ 47 rfl 3 3 (Maps.int_keyed Try.underlying3) Try.underlying47 _ w.heap.size k _ rfl (hown.alloc _) (by unfold maxLen; omega) _ _ _ rfl rfl hkx _ [] (plainElem_int Try.underlying3 hwy) ?_); intro w1 hown1 hgrow1)
      have hB1 : Below w.heap.size w w1 := (hB.alloc hB.size _).grown hgrow1 (by simp; omega) (fun j e => by cases e; exact Nat.le_refl _)
      go_roundw
      case rel => exact ⟨k + 1, by omega, by go_num, by rw [take_snoc' hx.out, mp, mpFrom_snoc]; exact hown1, hB1⟩
      case measure => simp [RowKit.intOf]; omega
    · obtain rfl : k = len := by omega
      rw [List.take_of_length_le (by rw [HZ.out]; exact Nat.le_refl _)] at hown
      go_wp2
      go_ret
      exact ⟨rfl, hown, hB⟩

/-- an entry whose numbers are numbers of their kind -/
abbrev Ent := { p : Int × Int // (Lit.int .i64 p.1).wf = true ∧ (Lit.int .i64 p.2).wf = true }
def vals (l : List Ent) : List (Int × Int) := l.map (·.1)
theorem vals_snoc (l : List Ent) (e : Ent) : vals (l ++ [e]) = vals l ++ [e.1] := by simp [vals]
theorem vals_length (l : List Ent) : (vals l).length = l.length := by simp [vals]

set_option maxRecDepth 100000 in
set_option maxHeartbeats 2000000 in
theorem pairs1_in (n : Nat) (hn : 1 ≤ n) (l Bs n₀ len cap : Nat) (A : Option Addr) (zs : List (Int × Int)) (hreach : len * 16 ≤ 140737488351232) (hf : WF zs) (J Jx : List Ent → World → Prop) (hJa : ∀ pre W o, J pre W → J pre (W.alloc o))
    (hY : ∀ pre x W, J pre W → pre.length < len → YieldAt Fence.wide (n - 1) Try.prog l #[.int .i64 x.1.1, .int .i64 x.1.2] W fun e W' =>
      (e = .returned (.bool true) ∧ J (pre ++ [x]) W' ∧ Below n₀ W W') ∨ (e = .returned (.bool false) ∧ Jx (pre ++ [x]) W'))
    (W : World) (hn₀ : n₀ ≤ W.heap.size) (hBs : W.cell? ⟨Bs, 0, none⟩ = some (.slice A len cap)) (hc : Rd W n₀ 2 A len (pairs zs)) (h0 : J [] W) :
    CallsIn Fence.wide n Try.prog 64 #[.func (.yield l) #[] #[], .pointer (some ⟨Bs, 0, none⟩)] W fun e W' => (∃ v, e = .returned v) ∧
      ((∃ ys, vals ys = zs ∧ J ys W') ∨ (∃ pre, (∃ k, vals pre = zs.take k) ∧ Jx pre W')) := by
  have hzl : zs.length = len := by have := hc.1; rw [pairs_length] at this; omega
  have HZ := hide hzl
  have HF := hide hf
  clear hzl hf
  refine callsIn_of_wp Try.func64 rfl trivial ?_ rfl
  simp only [Try.ntmps64, List.size_toArray, List.length_cons, List.length_nil, Nat.reduceAdd, Nat.reduceSub, Array.replicate_succ, Array.replicate_zero, List.push_toArray, List.append_toArray, List.nil_append, List.cons_append]
  gi_wp2
  gi_loopw [7] (fun i wr => ∃ (k : Nat) (pre : List Ent), k ≤ len ∧ i = .int .i64 k ∧ Hid (vals pre = zs.take k) ∧ J pre wr ∧ Below n₀ W wr) (fun i _ => len - (RowKit.intOf i).toNat)
  case atStart => exact ⟨0, [], Nat.zero_le _, rfl, rfl, h0, Below.refl _ _⟩
  case round =>
    obtain ⟨k, pre, hk, rfl, hp, hJs, hnx⟩ := hrel
    by_cases hlt : k < len
    · obtain ⟨b, off, x, y, rfl, hb, hx, hc1, hc2⟩ := (hc.below hnx).pair hlt
      obtain ⟨e1, he1⟩ : ∃ e1 : Ent, e1.1 = (x, y) := ⟨⟨(x, y), HF.out _ (List.mem_of_getElem? hx.out)⟩, rfl⟩
      have hpl : pre.length = k := by have := congrArg List.length hp.out; rw [vals_length, List.length_take, HZ.out] at this; omega
      obtain ⟨fn, tmps, assign, body, hy, hR⟩ := hY pre e1 (wr.alloc (.cells #[.int .i64 x, .int .i64 y] 35)) (hJa _ _ _ hJs) (by omega)
      rw [he1] at hy
      dsimp only at hy
      have HP : Hid (vals (pre ++ [e1]) = zs.take (k + 1)) := by show _ = _; rw [vals_snoc, hp.out, he1, take_snoc' hx.out]
      have hsw := hnx.size
      clear hpl he1
      gi_wp2
      refine hR.mono ?_
      rintro e W3 (⟨rfl, hJ3, hk3⟩ | ⟨rfl, hJx3⟩)
      · have hB3 : Below n₀ W W3 := (hnx.alloc (by omega) _).trans hk3
        gi_wp2
        go_roundw
        case rel => exact ⟨k + 1, pre ++ [e1], by omega, by go_num, HP, hJ3, hB3⟩
        case measure => simp [RowKit.intOf]; omega
      · gi_wp2
        refine bodyPost_ret (results_none rfl _ _ _) rfl ?_
        exact ⟨⟨_, rfl⟩, .inr ⟨_, ⟨k + 1, HP.out⟩, hJx3⟩⟩
    · obtain rfl : k = len := by omega
      gi_wp2
      go_end0
      exact ⟨⟨_, rfl⟩, .inl ⟨_, by rw [hp.out]; exact List.take_of_length_le (by rw [HZ.out]; exact Nat.le_refl _), hJs⟩⟩
set_option maxHeartbeats 1000000 in
theorem pairs_in (n : Nat) (a : Option Addr) (len cap : Nat) (w : World) :
    CallsIn Fence.wide n Try.prog 48 #[.slice a len cap] w fun e w' => e = .returned (.func (.func 64) #[] #[.pointer (some ⟨w.heap.size, 0, none⟩)]) ∧ w' = w.alloc (.cells #[.slice a len cap] 22) := by
  have hmf : ∀ (fn : Fn) (first cap : Array Value) (w : World), (Instr.makeFunc fn first cap).run Try.prog w = .ok (.func fn first cap) w := fun _ _ _ _ => rfl
  refine callsIn_of_wp Try.func48 rfl trivial ?_ rfl
  simp only [Try.ntmps48, List.size_toArray, List.length_cons, List.length_nil, Nat.reduceAdd, Nat.reduceSub, Array.replicate_succ, Array.replicate_zero, List.push_toArray, List.append_toArray, List.nil_append, List.cons_append]
  gi_wp2
  go_ret
  exact ⟨rfl, rfl⟩
theorem pairs_stops (n : Nat) (hn : 1 ≤ n) (Bs n₀ len cap : Nat) (A : Option Addr) (zs : List (Int × Int)) (hreach : len * 16 ≤ 140737488351232) (hf : WF zs) (w : World) (hBs : Bs < w.heap.size) (hn₀ : n₀ ≤ w.heap.size) (hc : w.cell? ⟨Bs, 0, none⟩ = some (.slice A len cap)) (hI : Rd w n₀ 2 A len (pairs zs)) :
    SeqStopsK Fence.wide n Try.prog 64 #[.pointer (some ⟨Bs, 0, none⟩)] (fun x : Ent => #[Value.int .i64 x.1.1, Value.int .i64 x.1.2]) (Below n₀) (fun ys => vals ys = zs) (fun pre => ∃ k, vals pre = zs.take k) len w := fun l J Jx W hW hJ _ hY h0 =>
  pairs1_in n hn l Bs n₀ len cap A zs hreach hf J Jx (fun pre W' o h => hJ pre W' _ none h (World.grownBy_alloc W' o none) (fun _ e => by cases e)) hY W (Nat.le_trans hn₀ hW.size) ((hW.cell (p := ⟨Bs, 0, none⟩) hBs).trans hc) (hI.below (hW.mono hn₀)) h0

theorem grown_trans {a b c : World} {row : Option Nat} (h : a.grownBy b row) (k : b.grownBy c row) : a.grownBy c row :=
  ⟨k.os.trans h.os, k.tape.trans h.tape, k.output.trans h.output, Nat.le_trans h.size k.size, fun i hi hne => (k.block i (Nat.lt_of_lt_of_le hi h.size) hne).trans (h.block i hi hne)⟩

set_option maxRecDepth 100000 in
set_option maxHeartbeats 2000000 in
theorem mapsInsert (b nn Bs n₀ len cap : Nat) (A : Option Addr) (zs : List (Int × Int)) (D : DW) (hreach : len * 16 ≤ 140737488351232) (hnn : nn ≤ 140737488351232) (hf : WF zs) (w : World) (hown : w.ownsMap Try.prog 3 (plainElem Try.prog 3) b nn D) (hb : n₀ ≤ b) (hBs : Bs < w.heap.size) (hc : w.cell? ⟨Bs, 0, none⟩ = some (.slice A len cap)) (hI : Rd w n₀ 2 A len (pairs zs)) :
    Calls Try.prog 49 #[.map (some b), .func (.func 64) #[] #[.pointer (some ⟨Bs, 0, none⟩)]] w fun e w' => e = .returned (.tuple #[]) ∧ w'.ownsMap Try.prog 3 (plainElem Try.prog 3) b (nn + len) (mpFrom D zs) ∧ w.grownBy w' (some b) := by
  refine (callsIn_wide (n := 3)).1 ?_
  have hzl : zs.length = len := by have := hI.1; rw [pairs_length] at this; omega
  have HZ := hide hzl
  clear hzl
  have hlt := hown.lt
  refine callsIn_of_wp_marks Try.func49 rfl trivial ?_ rfl
  simp only [Try.ntmps49, List.size_toArray, List.length_cons, List.length_nil, Nat.reduceAdd, Nat.reduceSub, Array.replicate_succ, Array.replicate_zero, List.push_toArray, List.append_toArray, List.nil_append, List.cons_append]
  gi_wp2
  have bM := Boxed.new w 47 (.map (some b))
  refine wpIn_rangeFunc_ownG rfl (by decide) (gf := 64) (lb := #[.pointer (some ⟨Bs, 0, none⟩)]) rfl trivial (enters_of Try.func64 (by kernel_rfl) rfl)
    (pairs_stops 2 (by decide) Bs n₀ len cap A zs hreach hf (w.alloc (.cells #[.map (some b)] 47)) (by simp; omega) (by simp; omega) ((World.cell?_alloc_lt w _ _ hBs).trans hc) (hI.alloc (by omega) _)) belowK_t (belowK_b (by simp; omega)) (Below.refl _ _) (fun _ => rfl)
    (fun (pre : List Ent) W => (W.ownsMap Try.prog 3 (plainElem Try.prog 3) b (nn + pre.length) (mpFrom D (vals pre)) ∧ Boxed W w.heap.size 47 (.map (some b))) ∧ w.grownBy W (some b)) (fun _ _ _ => False)
    ?hI (fun _ _ _ _ _ h _ _ => h)
    ⟨⟨hown.alloc _, bM⟩, World.grownBy_alloc w _ _⟩
    (fun y => { tmps := #[.map (some b), .func (.func 64) #[] #[.pointer (some ⟨Bs, 0, none⟩)], .pointer (some ⟨w.heap.size, 0, none⟩), undef, .int .i64 y.1.1, .int .i64 y.1.2, .func (.func 64) #[] #[.pointer (some ⟨Bs, 0, none⟩)], .int .i64 y.1.1, .int .i64 y.1.2, undef, undef, undef], defers := [] }) ?assign ?body ?done ?stop
  case hI =>
    rintro s X Y row ⟨⟨h1, h2⟩, h3⟩ hg hr
    refine ⟨⟨h1.kept hg (fun e => by have := (hr _ e.symm).1; simp at this; omega), h2.kept hg (fun e => by have := (hr _ e.symm).1; simp at this; omega)⟩, ?_⟩
    exact ⟨hg.os.trans h3.os, hg.tape.trans h3.tape, hg.output.trans h3.output, Nat.le_trans h3.size hg.size, fun i hi hne => (hg.block i (Nat.lt_of_lt_of_le hi h3.size) (fun e => by have := (hr _ e.symm).1; simp at this; omega)).trans (h3.block i hi hne)⟩
  case assign =>
    intro l y W K hK
    gi_wp2
    exact hK
  case body =>
    rintro l pre y W ⟨⟨hm, hv⟩, hg⟩ hlt2
    have hcm := hv.cell
    have hky := Maps.keyOf_int_mk Try.underlying3 y.2.1
    gi_wp2_with (gi_at_mapUpdate; go_must (refine wpListIn_mapUpdate_own _ rfl _ _ _ 47 rfl 3 3 (Maps.int_keyed Try.underlying3) Try.underlying47 _ b (nn + pre.length) _ rfl hm (by unfold maxLen; omega) _ _ _ rfl rfl hky _ [] (plainElem_int Try.underlying3 y.2.2) ?_); intro w1 hm1 hg1)
    refine ⟨KeepsFrom.of_grownBy hg1 (fun j e => by cases e; simp; omega), (Below.refl _ W).grown hg1 (by have := hg.size; omega) (fun j e => by cases e; exact hb), ⟨?_, hv.kept hg1 (fun e => by cases e; omega)⟩, grown_trans hg hg1⟩
    rw [vals_snoc, mpFrom_snoc, show nn + (pre ++ [y]).length = nn + pre.length + 1 by simp; omega]
    exact hm1
  case done =>
    rintro D' ys W hD hS ⟨⟨hm, hv⟩, hg⟩ hK
    gi_wp2
    refine ⟨by simp, .inl ⟨_, _, rfl, run_takeDeferred hK, ?_⟩⟩
    have hyl : ys.length = len := by rw [← vals_length, hS, HZ.out]
    refine ⟨_, results_none rfl _ _ _, rfl, ?_, ?_⟩
    · rw [hS, hyl] at hm
      exact hm.kept (grownBy_putObj' W D' (.deferred none)) (fun e => by cases e; simp at hD; omega)
    · have hp := grownBy_putObj' W D' (.deferred none)
      exact ⟨hp.os.trans hg.os, hp.tape.trans hg.tape, hp.output.trans hg.output, Nat.le_trans hg.size hp.size, fun i hi hne => (hp.block i (Nat.lt_of_lt_of_le hi hg.size) (fun e => by cases e; simp at hD; omega)).trans (hg.block i hi hne)⟩
  case stop =>
    rintro D' cd pre W _ _ h _
    exact h.elim

set_option maxRecDepth 100000 in
set_option maxHeartbeats 2000000 in
theorem mapsCollect (Bs n₀ len cap : Nat) (A : Option Addr) (zs : List (Int × Int)) (hreach : len * 16 ≤ 140737488351232) (hf : WF zs) (w : World) (hn₀ : n₀ ≤ w.heap.size) (hBs : Bs < w.heap.size) (hc : w.cell? ⟨Bs, 0, none⟩ = some (.slice A len cap)) (hI : Rd w n₀ 2 A len (pairs zs)) :
    Calls Try.prog 47 #[.func (.func 64) #[] #[.pointer (some ⟨Bs, 0, none⟩)]] w fun e w' => e = .returned (.map (some w.heap.size)) ∧ w'.ownsMap Try.prog 3 (plainElem Try.prog 3) w.heap.size len (mp zs) ∧ Below w.heap.size w w' := by
  have hmm := @run_makeMap Try.prog
  have hins := mapsInsert w.heap.size 0 Bs n₀ len cap A zs (.map []) hreach (by omega) hf (w.alloc (.map #[] 0)) (World.ownsMap_made w _ _ _) hn₀ (by simp; omega) ((World.cell?_alloc_lt w _ _ hBs).trans hc) (hI.alloc hn₀ _)
  have HIN := hide hins
  clear hins
  go_enter Try.func47, Try.ntmps47
  go_wp2_with fail
  refine HIN.out.mono ?_
  rintro e w1 ⟨rfl, hm, hg⟩
  rw [Nat.zero_add] at hm
  go_wp2
  go_ret
  exact ⟨rfl, hm, ((Below.refl _ w).alloc (Nat.le_refl _) _).grown hg (by simp) (fun j e => by cases e; exact Nat.le_refl _)⟩
end Go.Proofs.Ytcgcfenenkdhlaa
