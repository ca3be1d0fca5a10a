/-
  slices.SortStableFunc on a row of the call's own, slices.SortedStableFunc and impl.SortedStableFunc.
-/
import Derived.Deep.RegionWith
import Derived.Test.YtiocgmeonfanmaaStT
import Derived.Test.YtiocgmeonfanmaaSoP
import Derived.Test.YtiocgmeonfanmaaItM
namespace Go.Proofs.Ytiocgmeonfanmaa
open Go.RowKit Go.Sort Go.Shelf
set_option linter.unusedVariables false
set_option linter.unusedSimpArgs false

set_option maxHeartbeats 1000000 in
theorem insertion0 (c0 : Nat) (cv : Value) (w : World) : Calls Try.prog 45 #[.slice none 0 c0, .int .i64 0, .int .i64 0, cv] w fun e w' => e = .returned (.tuple #[]) ∧ w' = w := by
  go_enter Try.func45, Try.ntmps45
  go_wp2
  refine wp_loop_rounds 1 ?_
  rw [rounds_succ]
  go_wp2
  go_end0
  exact ⟨rfl, rfl⟩
set_option maxHeartbeats 1000000 in
theorem stable0 (c0 : Nat) (cv : Value) (w : World) : Calls Try.prog 42 #[.slice none 0 c0, .int .i64 0, cv] w fun e w' => e = .returned (.tuple #[]) ∧ w' = w := by
  go_enter Try.func42, Try.ntmps42
  go_wp2
  refine wp_loop_rounds 1 ?_
  rw [rounds_succ]
  go_wp2_with fail
  refine (insertion0 c0 cv w).mono ?_
  rintro _ w1 ⟨rfl, rfl⟩
  go_wp2
  refine wp_loop_rounds 1 ?_
  rw [rounds_succ]
  go_wp2
  go_end0
  exact ⟨rfl, rfl⟩
set_option maxHeartbeats 1000000 in
theorem sortStable0 (c0 : Nat) (cv : Value) (w : World) : Calls Try.prog 35 #[.slice none 0 c0, cv] w fun e w' => e = .returned (.tuple #[]) ∧ w' = w := by
  go_enter Try.func35, Try.ntmps35
  go_wp2_with fail
  refine (stable0 c0 cv w).mono ?_
  rintro _ w1 ⟨rfl, rfl⟩
  go_wp2
  go_end0
  exact ⟨rfl, rfl⟩

theorem StS.nil (s : Int) (os : List Int) : StS s os [] [] := ⟨[], by simp, rfl, List.Pairwise.nil⟩
/-- sorted stably in place: a permutation; for a weak order the stable order -/
theorem sortStableOwn (s : Int) (A : Option Addr) (l c B : Nat) (os : List Int) (A' : Option Addr) (n c' : Nat) (zs : List (Int × Int)) (w : World) (hown : w.ownsRow B 36 2 (.slice A' n c') n (pairs zs)) (hrd : Rd w B 1 A l (ints os)) (hl : l ≤ 9223372036854775807) (hnil : A'.isNone = decide (zs = [])) (hn : n * 16 ≤ 140737488355328) :
    Calls Try.prog 35 #[.slice A' n c', .func (.func 26) #[.agg #[.int .i64 s, .slice A l c]] #[]] w fun e w' => e = .returned (.tuple #[]) ∧ ∃ ts, ts.Perm zs ∧ (WeakP s os zs → StS s os zs ts) ∧ w'.ownsRow B 36 2 (.slice A' n c') n (pairs ts) ∧ Below B w w' := by
  have hzl : zs.length = n := by have := hown.1; rw [pairs_length] at this; omega
  cases hz : zs with
  | nil =>
    subst hz
    obtain rfl : n = 0 := by simpa using hzl.symm
    obtain rfl : A' = none := by simpa using hnil
    refine (sortStable0 c' _ w).mono ?_
    rintro e w' ⟨rfl, rfl⟩
    exact ⟨rfl, [], List.Perm.refl _, fun _ => StS.nil s os, hown, Below.refl _ _⟩
  | cons z zt =>
    rw [← hz]
    have hm : zs.length = zt.length + 1 := by rw [hz]; rfl
    obtain ⟨g, rfl, hBg, hns, R, back⟩ := row_of_own hm hown
    have hC : CmpB s A l c B os w g := ⟨hrd, hBg, hl⟩
    have h := sortStableI (itF zs zt.length) Fin.val s A l c B os g 0 c' (idxs zt.length) w R hC (by rw [idxs_size]; omega)
    rw [← hns] at h
    refine h.mono ?_
    rintro e w' ⟨rfl, d', hS, hP, hO⟩
    rw [hns] at hP hO
    obtain ⟨ho, hg⟩ := back d' w' hP.1 hS
    refine ⟨rfl, _, items_perm hm hP, fun hw => items_sts hm hP (hO (hw.swo _ (itF_mem hm)) (fun p hp => idxs_at _ _ (by rwa [idxs_size] at hp))), ho, ?_⟩
    exact (Below.refl _ _).grown hg (by have := R.hblk; omega) (fun j e => by cases e; exact hBg)

set_option maxHeartbeats 1000000 in
theorem sortedStableM (gf : Nat) (lb : Array Value) (s : Int) (A : Option Addr) (l c B : Nat) (os : List Int) (zs : List (Int × Int)) (w : World) (hB : B ≤ w.heap.size) (hrd : Rd w B 1 A l (ints os)) (hl : l ≤ 9223372036854775807) (hn : zs.length * 16 ≤ 140737488351232)
    (hco : Calls Try.prog 32 #[.func (.func gf) #[] lb] w fun e W' => ∃ A' c', e = .returned (.slice A' zs.length c') ∧ W'.ownsRow B 36 2 (.slice A' zs.length c') zs.length (pairs zs) ∧ (A'.isNone = decide (zs = [])) ∧ Below B w W') :
    Calls Try.prog 27 #[.func (.func gf) #[] lb, .func (.func 26) #[.agg #[.int .i64 s, .slice A l c]] #[]] w fun e w' => ∃ A' c' ts, e = .returned (.slice A' zs.length c') ∧ ts.Perm zs ∧ (WeakP s os zs → StS s os zs ts) ∧ w'.ownsRow B 36 2 (.slice A' zs.length c') zs.length (pairs ts) ∧ (A'.isNone = decide (zs = [])) ∧ Below B w w' := by
  have HCO := hide hco
  clear hco
  go_enter Try.func27, Try.ntmps27
  go_wp2_with fail
  refine HCO.out.mono ?_
  rintro _ w1 ⟨A', c', rfl, ho, hnl, hb1⟩
  have HNL := hide hnl
  have HC := hide (sortStableOwn s A l c B os A' zs.length c' zs w1 ho (hrd.below hb1) hl hnl (by omega))
  clear hnl ho
  go_wp2_with fail
  refine HC.out.mono ?_
  rintro _ w2 ⟨rfl, ts, hp, hst, ho2, hb2⟩
  have HP := hide hp
  have HST := hide hst
  have HO2 := hide ho2
  clear hp hst ho2
  go_wp2
  go_ret
  exact ⟨A', c', ts, rfl, HP.out, HST.out, HO2.out, HNL.out, hb1.trans hb2⟩

set_option maxHeartbeats 2000000 in
theorem implSortedStable (a : Option Addr) (len cap : Nat) (zs : List (Int × Int)) (s : Int) (A : Option Addr) (l c : Nat) (os : List Int) (hreach : len * 16 ≤ 140737488351232) (hl : l ≤ 9223372036854775807) (w : World) (hI : Rd w w.heap.size 2 a len (pairs zs)) (hO : Rd w w.heap.size 1 A l (ints os)) :
    Calls Try.prog 12 #[.slice a len cap, .agg #[.int .i64 s, .slice A l c]] w fun e w' => ∃ A' c' ts, e = .returned (.tuple #[.slice A' len c', .bool (decide (zs = []))]) ∧ ts.Perm zs ∧ (WeakP s os zs → StS s os zs ts) ∧ w'.ownsRow w.heap.size 36 2 (.slice A' len c') len (pairs ts) ∧ Below w.heap.size w w' := by
  have hzl : zs.length = len := by have := hI.1; rw [pairs_length] at this; omega
  subst hzl
  have hnil := fun (w : World) (a : Option Addr) (n c : Nat) => Lib.run_eql_slice_nil (P := Try.prog) w 22 36 a n c 0 0 Try.underlying22
  have mixed := mixedI
  have hmf : ∀ (fn : Fn) (first cap : Array Value) (w : World), (Instr.makeFunc fn first cap).run Try.prog w = .ok (.func fn first cap) w := fun _ _ _ _ => rfl
  obtain ⟨w1, hw1⟩ : ∃ w1, w1 = w.alloc (.cells #[.int .i64 s, .slice A l c] 25) := ⟨_, rfl⟩
  have hB1 : Below w.heap.size w w1 := by rw [hw1]; exact (Below.refl _ w).alloc (Nat.le_refl _) _
  have b2 : Boxed2 w1 w.heap.size 25 (.int .i64 s) (.slice A l c) := by rw [hw1]; exact Boxed2.new w _ _ _
  have hs1 : w1.heap.size = w.heap.size + 1 := by rw [hw1]; simp
  have HS1 := hide hs1
  clear hs1
  have HSQ : Hid (∀ W : World, Drew w1 W → Calls Try.prog 25 #[.slice a zs.length cap] W fun e w' => e = .returned (.func (.func 34) #[] #[.pointer (some ⟨W.heap.size, 0, none⟩)]) ∧ w' = W.alloc (.cells #[.slice a zs.length cap] 22)) := hide fun W _ => callsIn_wide.1 (seqM_in 3 _ _ _ _)
  have HSO : Hid (∀ W : World, Drew w1 W → Calls Try.prog 27 #[.func (.func 34) #[] #[.pointer (some ⟨W.heap.size, 0, none⟩)], .func (.func 26) #[.agg #[.int .i64 s, .slice A l c]] #[]] (W.alloc (.cells #[.slice a zs.length cap] 22)) fun e w' => ∃ A' c' ts, e = .returned (.slice A' zs.length c') ∧ ts.Perm zs ∧ (WeakP s os zs → StS s os zs ts) ∧ w'.ownsRow w.heap.size 36 2 (.slice A' zs.length c') zs.length (pairs ts) ∧ (A'.isNone = decide (zs = [])) ∧ Below w.heap.size w w') := hide fun W hD => by
    have hBW : Below w.heap.size w W := hB1.trans (hD.below _)
    have hsW : w.heap.size ≤ W.heap.size := hBW.size
    have hB0 : Below w.heap.size w (W.alloc (.cells #[.slice a zs.length cap] 22)) := hBW.alloc hsW _
    have hst := seqM_stops 1 (Nat.le_refl _) W.heap.size w.heap.size zs.length cap a zs hreach (W.alloc (.cells #[.slice a zs.length cap] 22)) (by simp) (by simp; omega) (Boxed.new W 22 (.slice a zs.length cap)).cell (hI.below hB0)
    have hco := collM_in 3 (by omega) _ _ (enters_of Try.func34 (by kernel_rfl) rfl) w.heap.size zs.length zs _ _ hst (by simp; omega) (by omega)
    refine (sortedStableM _ _ s A l c w.heap.size os zs _ (by simp; omega) (hO.below hB0) hl hreach (callsIn_wide.1 hco)).mono ?_
    rintro e w' ⟨A', c', ts, h1, h2, h3, h4, h5, h6⟩
    exact ⟨A', c', ts, h1, h2, h3, h4, h5, hB0.trans h6⟩
  go_enter Try.func12, Try.ntmps12
  go_wp2_with fail
  rw [← hw1]
  clear hw1
  have k0 := b2.cell0
  have k1 := b2.cell1
  have HD : Hid (Drew w1 w1.drew) := hide ⟨1, rfl⟩
  have HL : Hid (w.heap.size < w1.heap.size) := hide (by have := HS1.out; omega)
  go_region_with (first
    | (go_at_call 25; refine (HSQ.out w1.drew HD.out).mono ?_; rintro _ W2 ⟨rfl, hW2⟩; have HS2 := hide (HSO.out w1.drew HD.out); rw [← hW2] at HS2; have j0 : W2.cell? ⟨w.heap.size, 0, none⟩ = some (.int .i64 s) := (by rw [hW2]; exact (World.cell?_alloc_lt w1.drew _ _ HL.out).trans k0); have j1 : W2.cell? ⟨w.heap.size, 1, none⟩ = some (.slice A l c) := (by rw [hW2]; exact (World.cell?_alloc_lt w1.drew _ _ HL.out).trans k1); clear hW2)
    | (go_at_call 27; refine HS2.out.mono ?_; rintro _ W3 ⟨A', c', ts, rfl, hp, hst, ho, hnl, hbl⟩; have HP := hide hp; have HST := hide hst; have HO := hide ho; have HNL := hide hnl; clear hp hst ho hnl))
  all_goals (go_wp2_with fail; go_ret2; exact ⟨A', c', ts, by rw [HNL.out]; rfl, HP.out, HST.out, HO.out, hbl⟩)
end Go.Proofs.Ytiocgmeonfanmaa
