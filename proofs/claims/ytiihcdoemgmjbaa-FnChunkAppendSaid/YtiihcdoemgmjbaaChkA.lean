/-
  impl.ChunkAppend.
-/
import Derived.WalkKit
import Derived.WalkSpells
import Derived.WalkLawsBesides
import Derived.Outline
import Derived.Deep.DeepMust
import Derived.Test.YtiihcdoemgmjbaaChkL
namespace Go.Proofs.Ytiihcdoemgmjbaa
open Go.RowKit Go.Shelf
set_option linter.unusedVariables false
set_option linter.unusedSimpArgs false
attribute [local go_sem] Oper.semAt_some

theorem appCatch_panicking (b : Nat) (x0 x1 : Value) (u : TypeId) (pv : Value) (older : List PanicEntry) (w : World) (h0 : w.cell? ⟨b, 0, none⟩ = some x0) (h1 : w.cell? ⟨b + 1, 0, none⟩ = some x1) (f0 : w.frozen? ⟨b, 0, none⟩ = false) (f1 : w.frozen? ⟨b + 1, 0, none⟩ = false) :
    CallsD Try.prog 30 #[.pointer (some ⟨b, 0, none⟩), .pointer (some ⟨b + 1, 0, none⟩)] (.panicking ({ v := .iface u pv, recovered := false } :: older)) w fun e u' w' =>
      e = .returned (.tuple #[]) ∧ u' = .panicking ({ v := .iface u pv, recovered := true } :: older) ∧ w' = (w.setCell ⟨b, 0, none⟩ (.slice none 0 0)).setCell ⟨b + 1, 0, none⟩ (.bool true) := by
  refine callsD_of_wpS Try.func30 rfl fun c₀ cs hu => ?_
  apply wpS_seq
  apply wpS_region
  simp [wpOpsS, go_sem, recoverD, hu, Try.ntmps30, Exit.thenS]
  refine wpS_cond (t := true) (by simp [Act.eval, Array.replicate]) ?_
  simp only [if_true]
  apply wpS_region
  simp [wpOpsS, go_sem, h0, h1, f0, f1, bodyPostS, results, Try.results30]
theorem appCatch_idle (n : Nat) (p0 p1 : Addr) (w : World) :
    CallsDIn Fence.wide n Try.prog 30 #[.pointer (some p0), .pointer (some p1)] .returning w fun e u' w' => e = .returned (.tuple #[]) ∧ u' = .returning ∧ w' = w := by
  refine callsDIn_of_wpSIn Try.func30 rfl trivial fun c₀ cs hu => ?_
  apply wpSIn_seq
  apply wpSIn_region
  simp [wpOpsSIn, go_sem, recoverD, hu, Try.ntmps30, Exit.thenS, Fence.wide]
  refine wpSIn_cond (t := false) (by simp [Act.eval, Array.replicate]) ?_
  simp only [Bool.false_eq_true, if_false]
  refine wpSIn_of_wpIn rfl (wpIn_skip ?_)
  cases c₀
  simp_all [bodyPostS, results, Try.results30]

set_option maxRecDepth 100000 in
set_option maxHeartbeats 2000000 in
theorem implChunkAppend_panic (a : Option Addr) (len cap : Nat) (zs : List Int) (c k x : Int) (hl : len * 8 ≤ 140737488351232) (hc : c < 1) (w : World) (hI : Rd w w.heap.size 1 a len (ints zs)) :
    Calls Try.prog 18 #[.slice a len cap, .int .i64 c, .int .i64 k, .int .i64 x] w fun e w' => e = .returned (.tuple #[.slice none 0 0, .bool true]) ∧ Below w.heap.size w w' := by
  have HP := hide (fun (a' : Option Addr) (cap' : Nat) w => callsIn_wide.1 (chunkNeg 3 a' len cap' c hc w))
  obtain ⟨i0, hi, hz0, hz1, hz2⟩ := info_parts infoInt
  have hmf : ∀ (fn : Fn) (first cap : Array Value) (w : World), (Instr.makeFunc fn first cap).run Try.prog w = .ok (.func fn first cap) w := fun _ _ _ _ => rfl
  have hsz1 : ((((w.alloc (.cells #[.int .i64 k] 3)).alloc (.cells #[.int .i64 x] 3)).alloc (.cells #[.slice none 0 0] 22)).alloc (.cells #[.bool false] 4)).heap.size = w.heap.size + 1 + 1 + 1 + 1 := by simp
  have hb1 : Below w.heap.size w ((((w.alloc (.cells #[.int .i64 k] 3)).alloc (.cells #[.int .i64 x] 3)).alloc (.cells #[.slice none 0 0] 22)).alloc (.cells #[.bool false] 4)) := ((((Below.refl _ w).alloc (Nat.le_refl _) _).alloc (by simp) _).alloc (by simp; omega) _).alloc (by simp; omega) _
  have hI1 := hI.below hb1
  have HS := hide hsz1
  clear hsz1
  go_enter_defers Try.func18, Try.ntmps18
  go_wp2_with (at_builtin; go_must (refine wpList_append_rd _ rfl _ _ 22 rfl (w.heap.size + 1 + 1 + 1 + 1) 3 i0 (.int .i64 0) 1 8 Try.underlying22 hi hz0 hz1 hz2 rfl (by decide) (.slice none 0 0) 0 [] rfl (World.ownsRow_nil _ _ _ _) w.heap.size a len cap (ints zs) rfl hI1 (ints_one _) (by unfold maxLen; omega) (by omega) (by rw [HS.out]; exact Nat.le_refl _) ?_); intro v2 w2 own2 hg2 hn2; clear hn2; simp only [Nat.zero_add, List.nil_append] at own2; obtain ⟨A2, c2, rfl⟩ := own_slice own2; have hB2 : Below (w.heap.size + 1 + 1 + 1 + 1) _ w2 := (Below.refl _ _).grown hg2 (by rw [HS.out]; exact Nat.le_refl _) (by simp [Value.ownBlock]); have hs2 : w.heap.size + 1 + 1 + 1 < w2.heap.size := (by have := hB2.size; rw [HS.out] at this; omega); have hs2b : w.heap.size + 1 + 1 < w2.heap.size := (by omega); have d0 : w2.cell? ⟨w.heap.size, 0, none⟩ = some (.int .i64 k) := ((bcell hB2).1 _ _ (by omega)).trans (by simp [go_sem]); have d1 : w2.cell? ⟨w.heap.size + 1, 0, none⟩ = some (.int .i64 x) := ((bcell hB2).1 _ _ (by omega)).trans (by simp [go_sem]); have d2 : w2.cell? ⟨w.heap.size + 1 + 1, 0, none⟩ = some (.slice none 0 0) := ((bcell hB2).1 _ _ (by omega)).trans (by simp [go_sem]); have d3 : w2.cell? ⟨w.heap.size + 1 + 1 + 1, 0, none⟩ = some (.bool false) := ((bcell hB2).1 _ _ (by omega)).trans (by simp [go_sem]); have k2 : w2.frozen? ⟨w.heap.size + 1 + 1, 0, none⟩ = false := ((bcell hB2).2 _ _ (by omega)).trans (by simp [go_sem]); have k3 : w2.frozen? ⟨w.heap.size + 1 + 1 + 1, 0, none⟩ = false := ((bcell hB2).2 _ _ (by omega)).trans (by simp [go_sem]))
  obtain ⟨w3, hw3⟩ : ∃ w3, w3 = w2.setCell ⟨w.heap.size + 1 + 1, 0, none⟩ (.slice A2 len c2) := ⟨_, rfl⟩
  have hb3 : Below w.heap.size w w3 := by rw [hw3]; exact (hb1.trans (hB2.mono (by omega))).setCell (p := ⟨w.heap.size + 1 + 1, 0, none⟩) (by show w.heap.size ≤ w.heap.size + 1 + 1; omega) _
  have hs3 : w.heap.size + 1 + 1 + 1 + 1 ≤ w3.heap.size := by have := hB2.size; rw [HS.out] at this; rw [hw3]; simpa using this
  have hc0 : w3.cell? ⟨w.heap.size, 0, none⟩ = some (.int .i64 k) := by rw [hw3, cso (by show _ ≠ _; simp; omega)]; exact d0
  have hc1 : w3.cell? ⟨w.heap.size + 1, 0, none⟩ = some (.int .i64 x) := by rw [hw3, cso (by show _ ≠ _; simp)]; exact d1
  have hc2 : w3.cell? ⟨w.heap.size + 1 + 1, 0, none⟩ = some (.slice A2 len c2) := by rw [hw3]; exact World.cell?_setCell_same _ _ _ d2
  have hc3 : w3.cell? ⟨w.heap.size + 1 + 1 + 1, 0, none⟩ = some (.bool false) := by rw [hw3, cso (by show _ ≠ _; simp)]; exact d3
  have hf2 : w3.frozen? ⟨w.heap.size + 1 + 1, 0, none⟩ = false := by rw [hw3, World.frozen?_setCell]; exact k2
  have hf3 : w3.frozen? ⟨w.heap.size + 1 + 1 + 1, 0, none⟩ = false := by rw [hw3, World.frozen?_setCell]; exact k3
  rw [← hw3]
  clear hw3 d0 d1 d2 d3 k2 k3 own2 hg2 hB2
  refine (HP.out _ _ _).mono ?_
  rintro e w4 ⟨⟨u, pv, rfl⟩, hw4⟩
  have hb4 : Below w3.heap.size w3 w4 := by rw [hw4]; exact (((Below.refl _ w3).alloc (Nat.le_refl _) _).alloc (by simp) _).alloc (by simp; omega) _
  have e2 := ((bcell hb4).1 _ _ (by omega)).trans hc2
  have e3 := ((bcell hb4).1 _ _ (by omega)).trans hc3
  have g2 := ((bcell hb4).2 _ _ (by omega)).trans hf2
  have g3 := ((bcell hb4).2 _ _ (by omega)).trans hf3
  clear hw4
  go_wp2
  refine leaves_cons (f := 30) (args := #[.pointer (some ⟨w.heap.size + 1 + 1, 0, none⟩), .pointer (some ⟨w.heap.size + 1 + 1 + 1, 0, none⟩)]) (by simp) (by simp [go_sem]) ?_
  refine (appCatch_panicking (w.heap.size + 1 + 1) _ _ u pv [] w4 e2 e3 g2 g3).mono ?_
  rintro e u' w'' ⟨rfl, rfl, hw''⟩
  obtain ⟨q0, q1, hb5⟩ := set2 (w.heap.size + 1 + 1) _ _ _ _ w4 e2 e3 w'' hw''
  clear hw''
  simp [Leaves, settle, results, Try.results18, go_sem, q0, q1]
  exact (hb3.trans (hb4.mono (by omega))).trans (hb5.mono (by omega))

set_option maxRecDepth 100000 in
set_option maxHeartbeats 2000000 in
theorem implChunkAppend (a : Option Addr) (len cap : Nat) (zs : List Int) (c : Nat) (k x : Int) (hl : len * 8 ≤ 140737488351232) (qc1 : 1 ≤ c) (qc2 : c ≤ 9223372036854775807) (w : World) (hI : Rd w w.heap.size 1 a len (ints zs)) :
    Calls Try.prog 18 #[.slice a len cap, .int .i64 c, .int .i64 k, .int .i64 x] w fun e w' => ∃ A c', e = .returned (.tuple #[.slice A len c', .bool false]) ∧ Rd w' w'.heap.size 1 A len (ints zs) ∧ Below w.heap.size w w' := by
  refine (callsIn_wide (n := 3)).1 ?_
  have hzl : zs.length = len := by have := hI.1; simpa using this
  have HZ := hide hzl
  clear hzl
  obtain ⟨i0, hi, hz0, hz1, hz2⟩ := info_parts infoInt
  have hmf : ∀ (fn : Fn) (first cap : Array Value) (w : World), (Instr.makeFunc fn first cap).run Try.prog w = .ok (.func fn first cap) w := fun _ _ _ _ => rfl
  have hsz1 : ((((w.alloc (.cells #[.int .i64 k] 3)).alloc (.cells #[.int .i64 x] 3)).alloc (.cells #[.slice none 0 0] 22)).alloc (.cells #[.bool false] 4)).heap.size = w.heap.size + 1 + 1 + 1 + 1 := by simp
  have hb1 : Below w.heap.size w ((((w.alloc (.cells #[.int .i64 k] 3)).alloc (.cells #[.int .i64 x] 3)).alloc (.cells #[.slice none 0 0] 22)).alloc (.cells #[.bool false] 4)) := ((((Below.refl _ w).alloc (Nat.le_refl _) _).alloc (by simp) _).alloc (by simp; omega) _).alloc (by simp; omega) _
  have hI1 := hI.below hb1
  have HS := hide hsz1
  clear hsz1
  refine callsIn_of_wp_marks Try.func18 rfl trivial ?_ rfl
  simp only [Try.ntmps18, List.size_toArray, List.length_cons, List.length_nil, Nat.reduceAdd, Nat.reduceSub, Array.replicate_succ, Array.replicate_zero, List.push_toArray, List.append_toArray, List.nil_append, List.cons_append]
  gi_wp2_with (first | (gi_at_builtin; go_must (refine wpListIn_append_rd _ rfl _ _ 22 rfl (w.heap.size + 1 + 1 + 1 + 1) 3 i0 (.int .i64 0) 1 8 Try.underlying22 hi hz0 hz1 hz2 rfl (by decide) (.slice none 0 0) 0 [] rfl (World.ownsRow_nil _ _ _ _) w.heap.size a len cap (ints zs) rfl hI1 (ints_one _) (by unfold maxLen; omega) (by omega) (by rw [HS.out]; exact Nat.le_refl _) ?_); intro v2 w2 own2 hg2 hn2; clear hn2; simp only [Nat.zero_add, List.nil_append] at own2; obtain ⟨A2, c2, rfl⟩ := own_slice own2; have hB2 : Below (w.heap.size + 1 + 1 + 1 + 1) _ w2 := (Below.refl _ _).grown hg2 (by rw [HS.out]; exact Nat.le_refl _) (by simp [Value.ownBlock]); have hs2 : w.heap.size + 1 + 1 + 1 < w2.heap.size := (by have := hB2.size; rw [HS.out] at this; omega); have hs2b : w.heap.size + 1 + 1 < w2.heap.size := (by omega); have d0 : w2.cell? ⟨w.heap.size, 0, none⟩ = some (.int .i64 k) := ((bcell hB2).1 _ _ (by omega)).trans (by simp [go_sem]); have d1 : w2.cell? ⟨w.heap.size + 1, 0, none⟩ = some (.int .i64 x) := ((bcell hB2).1 _ _ (by omega)).trans (by simp [go_sem]); have d2 : w2.cell? ⟨w.heap.size + 1 + 1, 0, none⟩ = some (.slice none 0 0) := ((bcell hB2).1 _ _ (by omega)).trans (by simp [go_sem]); have d3 : w2.cell? ⟨w.heap.size + 1 + 1 + 1, 0, none⟩ = some (.bool false) := ((bcell hB2).1 _ _ (by omega)).trans (by simp [go_sem]); have k2 : w2.frozen? ⟨w.heap.size + 1 + 1, 0, none⟩ = false := ((bcell hB2).2 _ _ (by omega)).trans (by simp [go_sem]); have k3 : w2.frozen? ⟨w.heap.size + 1 + 1 + 1, 0, none⟩ = false := ((bcell hB2).2 _ _ (by omega)).trans (by simp [go_sem])) | (refine ⟨trivial, ?_⟩; gi_at_call 29; refine (chunk_in _ _ _ _ c qc1 _).mono ?_; rintro e w' ⟨rfl, rfl⟩))
  obtain ⟨w3, hw3⟩ : ∃ w3, w3 = w2.setCell ⟨w.heap.size + 1 + 1, 0, none⟩ (.slice A2 len c2) := ⟨_, rfl⟩
  have hb3 : Below w.heap.size w w3 := by rw [hw3]; exact (hb1.trans (hB2.mono (by omega))).setCell (p := ⟨w.heap.size + 1 + 1, 0, none⟩) (by show w.heap.size ≤ w.heap.size + 1 + 1; omega) _
  have hs3 : w.heap.size + 1 + 1 + 1 + 1 ≤ w3.heap.size := by have := hB2.size; rw [HS.out] at this; rw [hw3]; simpa using this
  have hc0 : w3.cell? ⟨w.heap.size, 0, none⟩ = some (.int .i64 k) := by rw [hw3, cso (by show _ ≠ _; simp; omega)]; exact d0
  have hc1 : w3.cell? ⟨w.heap.size + 1, 0, none⟩ = some (.int .i64 x) := by rw [hw3, cso (by show _ ≠ _; simp)]; exact d1
  have hc2 : w3.cell? ⟨w.heap.size + 1 + 1, 0, none⟩ = some (.slice A2 len c2) := by rw [hw3]; exact World.cell?_setCell_same _ _ _ d2
  have hc3 : w3.cell? ⟨w.heap.size + 1 + 1 + 1, 0, none⟩ = some (.bool false) := by rw [hw3, cso (by show _ ≠ _; simp)]; exact d3
  have hf2 : w3.frozen? ⟨w.heap.size + 1 + 1, 0, none⟩ = false := by rw [hw3, World.frozen?_setCell]; exact k2
  have hf3 : w3.frozen? ⟨w.heap.size + 1 + 1 + 1, 0, none⟩ = false := by rw [hw3, World.frozen?_setCell]; exact k3
  have own3 : w3.ownsRow (w.heap.size + 1 + 1 + 1 + 1) 3 1 (.slice A2 len c2) len (ints zs) := by
    rw [hw3]; exact ownsRow_setCell_below own2 (by show w.heap.size + 1 + 1 < _; omega) _
  have hz3 : w2.heap.size = w3.heap.size := by rw [hw3]; simp
  have hcap : len ≤ c2 := by
    rcases own3.2 with ⟨h, h2⟩ | ⟨g, cap', cur, hv, _, _, h, _⟩
    · omega
    · injection hv with _ _ h4; omega
  rw [← hw3, hz3]
  clear hw3 d0 d1 d2 d3 k2 k3 own2 hg2 hB2 hs2 hs2b hz3
  obtain ⟨b, off, hA⟩ : ∃ b off, 0 < len → A2 = some ⟨b, off, none⟩ := by
    rcases Nat.eq_zero_or_pos len with h | h
    · exact ⟨0, 0, fun h' => absurd h' (by omega)⟩
    · obtain ⟨b, off, e, _⟩ := (Rd.of_own own3).2 h
      exact ⟨b, off, fun _ => e⟩
  have bI := Boxed.new w3 3 (.int .i64 0)
  obtain ⟨W0, hW0⟩ : ∃ W0, W0 = ((w3.alloc (.cells #[.int .i64 0] 3)).alloc (.cells #[.slice A2 len c2] 22)).alloc (.cells #[.int .i64 c] 3) := ⟨_, rfl⟩
  have hs0 : W0.heap.size = w3.heap.size + 1 + 1 + 1 := by rw [hW0]; simp
  have bI0 : Boxed W0 w3.heap.size 3 (.int .i64 0) := by rw [hW0]; exact (bI.alloc _).alloc _
  have hBs : W0.cell? ⟨w3.heap.size + 1, 0, none⟩ = some (.slice A2 len c2) := by rw [hW0]; simp [go_sem]
  have hBn : W0.cell? ⟨w3.heap.size + 1 + 1, 0, none⟩ = some (.int .i64 c) := by rw [hW0]; simp [go_sem]
  have hB0 : Below w3.heap.size w3 W0 := by rw [hW0]; exact (((Below.refl _ w3).alloc (Nat.le_refl _) _).alloc (by simp) _).alloc (by simp; omega) _
  rw [← hW0]
  clear hW0 bI
  have HS0 := hide hs0
  clear hs0
  refine wpIn_rangeFunc_ownG rfl (by decide) (gf := 39) (lb := #[.pointer (some ⟨w3.heap.size + 1, 0, none⟩), .pointer (some ⟨w3.heap.size + 1 + 1, 0, none⟩)]) rfl trivial (enters_of Try.func39 (by kernel_rfl) rfl)
    (chunk_stops 2 (by decide) (w3.heap.size + 1) (w3.heap.size + 1 + 1) len c2 c b off A2 hcap hl hA qc1 qc2 W0 (by rw [HS0.out]; omega) (by rw [HS0.out]; omega) hBs hBn) keepV_t (keepV_b (by rw [HS0.out]; omega) (by rw [HS0.out]; omega)) (Below.refl _ _) (fun _ => rfl)
    (fun (pre : List (Ix c len)) W => (Boxed W w3.heap.size 3 (.int .i64 (pre.length : Int)) ∧ Below w3.heap.size w3 W) ∧ w3.heap.size + 1 + 1 + 1 ≤ W.heap.size) (fun _ _ _ => False)
    (OwnFrom.and (OwnFrom.and (Own.from (boxed_own w3.heap.size 3 (fun (pre : List (Ix c len)) => Value.int .i64 (pre.length : Int))) _) (ownFrom_below (Nat.le_refl _) (by rw [HS0.out]; omega))) (fun _ _ _ _ h hg _ => Nat.le_trans h hg.size))
    (fun _ _ _ _ _ h _ _ => h)
    ⟨⟨bI0, hB0⟩, by rw [HS0.out]; exact Nat.le_refl _⟩
    (fun y => { tmps := #[.slice a len cap, .int .i64 c, .int .i64 k, .int .i64 x, undef, undef, .pointer (some ⟨w.heap.size, 0, none⟩), .pointer (some ⟨w.heap.size + 1, 0, none⟩), .pointer (some ⟨w.heap.size + 1 + 1, 0, none⟩), .pointer (some ⟨w.heap.size + 1 + 1 + 1, 0, none⟩), .pointer (some ⟨w3.heap.size, 0, none⟩), .slice (some ⟨b, off + y.1 * c, none⟩) (chL c len y.1) (chL c len y.1), .func (.func 30) #[] #[.pointer (some ⟨w.heap.size + 1 + 1, 0, none⟩), .pointer (some ⟨w.heap.size + 1 + 1 + 1, 0, none⟩)], .slice a len cap, .slice A2 len c2, .slice A2 len c2, .int .i64 c, .func (.func 39) #[] #[.pointer (some ⟨w3.heap.size + 1, 0, none⟩), .pointer (some ⟨w3.heap.size + 1 + 1, 0, none⟩)], .slice (some ⟨b, off + y.1 * c, none⟩) (chL c len y.1) (chL c len y.1), undef, undef, undef, undef, undef, undef, undef, undef, undef, undef], defers := [] }) ?assign ?body ?done ?stop
  case assign =>
    intro l y W K hK
    simp only [chEnc]
    gi_wp2
    exact hK
  case body =>
    rintro l pre y W ⟨⟨hv, hB⟩, hWs⟩ hlt
    have hci := hv.cell
    have hfi := hv.frozen
    have hck := ((bcell hB).1 _ _ (by omega)).trans hc0
    have hcx := ((bcell hB).1 _ _ (by omega)).trans hc1
    have hsW := hB.size
    obtain ⟨m, hm⟩ : ∃ m, chL c len y.1 = m := ⟨_, rfl⟩
    obtain ⟨s, hs⟩ : ∃ s, y.1 * c = s := ⟨_, rfl⟩
    have hsl : s < len := by rw [← hs]; exact y.2
    have hm1 : 0 < m := by rw [← hm, chL, hs]; split <;> omega
    have hm2 : s + m ≤ len := by rw [← hm, chL, hs]; split <;> omega
    rw [hm, hs]
    clear hm hs
    obtain rfl := hA (by omega)
    have hmid := ((Rd.of_own own3).below hB).mid hm1 hm2
    have hmil := mid_length HZ.out hm2
    obtain ⟨M, hM⟩ : ∃ M, ints ((zs.drop s).take m) = M := ⟨_, rfl⟩
    have hMl : M.length = m * 1 := by rw [← hM]; simpa using hmil
    rw [hM] at hmid
    have hmid2 : ∀ (o : Obj) (j : Nat) (u : Value), M[j]? = some u → (W.alloc o).cell? ((⟨b, off + s, none⟩ : Addr).add j) = some u := by
      intro o j u hu
      have h := hmid j u hu
      rw [addr_add]
      have hlt2 : b < W.heap.size := by
        obtain ⟨b', off', e, hb', _⟩ := (Rd.of_own own3).2 (by omega)
        injection e with e
        injection e with e1 e2
        omega
      exact (World.cell?_alloc_lt W o _ hlt2).trans h
    have HM2 := hide hmid2
    have HML := hide hMl
    clear hmid hmil hM hmid2 hMl
    by_cases hik : (pre.length : Int) = k
    · have hik' : ((pre.length : Int) == k) = true := by simpa using hik
      clear hik
      gi_wp2_with (gi_at_builtin; go_must (refine wpListIn_append_full _ rfl _ _ 22 rfl 3 i0 (.int .i64 0) 1 8 Try.underlying22 hi hz0 hz1 hz2 rfl (by decide) ⟨b, off + s, none⟩ m m M rfl HML.out (HM2.out _) ⟨W.heap.size, 0, none⟩ 1 1 [.int .i64 x] rfl rfl (cell_one_new _ _ _) (by omega) (by unfold maxLen; omega) (by omega) ?_); intro v4 w4 own4 hg4; have hv4 := (hv.alloc _).kept hg4 (by simp); have hci4 := hv4.cell; have hfi4 := hv4.frozen)
      refine ⟨(((KeepsOthers.alloc _ _).trans (KeepsOthers.of_grownBy hg4 (fun j o e _ => by cases e))).trans (KeepsOthers.setCell _ _ _)).from _, ?_, ⟨?_, ?_⟩, ?_⟩
      · exact KeepV.trans (KeepV.below ((((Below.refl (w3.heap.size + 1 + 1 + 1) W).alloc hWs _).grown hg4 (by simp; omega) (fun k e => by cases e))) (by omega) (by omega)) ⟨Below.heap_setCell _ ⟨w3.heap.size, 0, none⟩ _ _ (by show _ ≠ _; simp), Below.heap_setCell _ ⟨w3.heap.size, 0, none⟩ _ _ (by show _ ≠ _; simp; omega)⟩
      · have := hv4.set (.int .i64 ((pre.length : Int) + 1))
        simpa using this
      · exact ((hB.alloc hsW _).grown hg4 (by simp; omega) (fun k e => by cases e)).setCell (p := ⟨w3.heap.size, 0, none⟩) (Nat.le_refl _) _
      · have := hg4.size
        simp at this ⊢
        omega
    · have hik' : ((pre.length : Int) == k) = false := by simpa using hik
      clear hik
      gi_wp2
      refine ⟨(KeepsOthers.setCell _ _ _).from _, ⟨Below.heap_setCell _ ⟨w3.heap.size, 0, none⟩ _ _ (by show _ ≠ _; simp), Below.heap_setCell _ ⟨w3.heap.size, 0, none⟩ _ _ (by show _ ≠ _; simp; omega)⟩, ⟨?_, ?_⟩, by simpa using hWs⟩
      · have := hv.set (.int .i64 ((pre.length : Int) + 1))
        simpa using this
      · exact hB.setCell (p := ⟨w3.heap.size, 0, none⟩) (Nat.le_refl _) _
  case done =>
    rintro D ys W hD hS ⟨⟨hv, hB⟩, hWs⟩ hK
    have e2 := ((bcell hB).1 _ _ (by omega)).trans hc2
    have e3 := ((bcell hB).1 _ _ (by omega)).trans hc3
    have g2 := ((bcell hB).2 _ _ (by omega)).trans hf2
    have g3 := ((bcell hB).2 _ _ (by omega)).trans hf3
    have hr5 := own_belowC own3 hB (Nat.le_refl _)
    have hsD : w3.heap.size + 1 + 1 + 1 ≤ D := by rw [← HS0.out]; exact hD
    clear hv
    gi_wp2
    obtain ⟨W2, hW2⟩ : ∃ W2, W2 = (W.setCell ⟨w.heap.size + 1 + 1, 0, none⟩ (.slice A2 len c2)).setCell ⟨w.heap.size + 1 + 1 + 1, 0, none⟩ (.bool false) := ⟨_, rfl⟩
    rw [← hW2]
    obtain ⟨q2, q3, hbW⟩ := set2 (w.heap.size + 1 + 1) _ _ _ _ W e2 e3 W2 hW2
    have hK2 : W2.heap[D]? = some (.deferred (some [])) := by rw [hW2]; exact ((KeepsOthers.setCell _ _ _).trans (KeepsOthers.setCell _ _ _)).same D _ hK rfl
    have hr6 : W2.ownsRow (w.heap.size + 1 + 1 + 1 + 1) 3 1 (.slice A2 len c2) len (ints zs) := by
      rw [hW2]
      exact ownsRow_setCell_below (ownsRow_setCell_below hr5 (by show w.heap.size + 1 + 1 < _; omega) _) (by show w.heap.size + 1 + 1 + 1 < _; omega) _
    have hb6 : Below w.heap.size w W2 := (hb3.trans (hB.mono (by omega))).trans (hbW.mono (by omega))
    clear hW2 hbW hr5 e2 e3 g2 g3
    have hbD : Below D W2 (W2.putObj D (.deferred none)) := ⟨rfl, rfl, rfl, (grownBy_putObj' W2 D (.deferred none)).size, fun k hk => (grownBy_putObj' W2 D (.deferred none)).block k (by have := (Array.getElem?_eq_some_iff.1 hK2).1; omega) (fun e => by cases e; omega)⟩
    refine leave_mark hK2 (by simp [go_sem]) (appCatch_idle _ _ _ _) ⟨.tuple #[.slice A2 len c2, .bool false], ?_, A2, c2, rfl, Rd.of_own (ownsRow_putObj hr6 _ hK2 rfl), hb6.trans (hbD.mono (by omega))⟩
    have q2' := ((bcell hbD).1 _ _ (by omega)).trans q2
    have q3' := ((bcell hbD).1 _ _ (by omega)).trans q3
    simp [results, Try.results18, go_sem, q2', q3']
  case stop =>
    rintro D c' pre W _ _ h _
    exact h.elim
end Go.Proofs.Ytiihcdoemgmjbaa
