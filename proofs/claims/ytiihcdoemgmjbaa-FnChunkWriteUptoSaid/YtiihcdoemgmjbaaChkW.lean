/-
  impl.ChunkWrite.
-/
import Derived.WalkKit
import Derived.WalkSpells
import Derived.WalkLawsBesides
import Derived.Outline
import Derived.Deep.DeepMust
import Derived.Test.YtiihcdoemgmjbaaChkL
namespace Go.Proofs.Ytiihcdoemgmjbaa
open Go.RowKit Go.Shelf
set_option linter.unusedVariables false
set_option linter.unusedSimpArgs false
attribute [local go_sem] Oper.semAt_some

theorem wriCatch_panicking (b : Nat) (x0 x1 : Value) (u : TypeId) (pv : Value) (older : List PanicEntry) (w : World) (h0 : w.cell? ⟨b, 0, none⟩ = some x0) (h1 : w.cell? ⟨b + 1, 0, none⟩ = some x1) (f0 : w.frozen? ⟨b, 0, none⟩ = false) (f1 : w.frozen? ⟨b + 1, 0, none⟩ = false) :
    CallsD Try.prog 31 #[.pointer (some ⟨b, 0, none⟩), .pointer (some ⟨b + 1, 0, none⟩)] (.panicking ({ v := .iface u pv, recovered := false } :: older)) w fun e u' w' =>
      e = .returned (.tuple #[]) ∧ u' = .panicking ({ v := .iface u pv, recovered := true } :: older) ∧ w' = (w.setCell ⟨b, 0, none⟩ (.slice none 0 0)).setCell ⟨b + 1, 0, none⟩ (.bool true) := by
  refine callsD_of_wpS Try.func31 rfl fun c₀ cs hu => ?_
  apply wpS_seq
  apply wpS_region
  simp [wpOpsS, go_sem, recoverD, hu, Try.ntmps31, Exit.thenS]
  refine wpS_cond (t := true) (by simp [Act.eval, Array.replicate]) ?_
  simp only [if_true]
  apply wpS_region
  simp [wpOpsS, go_sem, h0, h1, f0, f1, bodyPostS, results, Try.results31]
theorem wriCatch_idle (n : Nat) (p0 p1 : Addr) (w : World) :
    CallsDIn Fence.wide n Try.prog 31 #[.pointer (some p0), .pointer (some p1)] .returning w fun e u' w' => e = .returned (.tuple #[]) ∧ u' = .returning ∧ w' = w := by
  refine callsDIn_of_wpSIn Try.func31 rfl trivial fun c₀ cs hu => ?_
  apply wpSIn_seq
  apply wpSIn_region
  simp [wpOpsSIn, go_sem, recoverD, hu, Try.ntmps31, Exit.thenS, Fence.wide]
  refine wpSIn_cond (t := false) (by simp [Act.eval, Array.replicate]) ?_
  simp only [Bool.false_eq_true, if_false]
  refine wpSIn_of_wpIn rfl (wpIn_skip ?_)
  cases c₀
  simp_all [bodyPostS, results, Try.results31]

set_option maxRecDepth 100000 in
set_option maxHeartbeats 2000000 in
theorem implChunkWrite_panic (a : Option Addr) (len cap : Nat) (zs : List Int) (c k x : Int) (hl : len * 8 ≤ 140737488351232) (hc : c < 1) (w : World) (hI : Rd w w.heap.size 1 a len (ints zs)) :
    Calls Try.prog 20 #[.slice a len cap, .int .i64 c, .int .i64 k, .int .i64 x] w fun e w' => e = .returned (.tuple #[.slice none 0 0, .bool true]) ∧ Below w.heap.size w w' := by
  have HP := hide (fun (a' : Option Addr) (cap' : Nat) w => callsIn_wide.1 (chunkNeg 3 a' len cap' c hc w))
  obtain ⟨i0, hi, hz0, hz1, hz2⟩ := info_parts infoInt
  have hmf : ∀ (fn : Fn) (first cap : Array Value) (w : World), (Instr.makeFunc fn first cap).run Try.prog w = .ok (.func fn first cap) w := fun _ _ _ _ => rfl
  have hsz1 : ((((w.alloc (.cells #[.int .i64 k] 3)).alloc (.cells #[.int .i64 x] 3)).alloc (.cells #[.slice none 0 0] 22)).alloc (.cells #[.bool false] 4)).heap.size = w.heap.size + 1 + 1 + 1 + 1 := by simp
  have hb1 : Below w.heap.size w ((((w.alloc (.cells #[.int .i64 k] 3)).alloc (.cells #[.int .i64 x] 3)).alloc (.cells #[.slice none 0 0] 22)).alloc (.cells #[.bool false] 4)) := ((((Below.refl _ w).alloc (Nat.le_refl _) _).alloc (by simp) _).alloc (by simp; omega) _).alloc (by simp; omega) _
  have hI1 := hI.below hb1
  have HS := hide hsz1
  clear hsz1
  go_enter_defers Try.func20, Try.ntmps20
  go_wp2_with (at_builtin; go_must (refine wpList_append_rd _ rfl _ _ 22 rfl (w.heap.size + 1 + 1 + 1 + 1) 3 i0 (.int .i64 0) 1 8 Try.underlying22 hi hz0 hz1 hz2 rfl (by decide) (.slice none 0 0) 0 [] rfl (World.ownsRow_nil _ _ _ _) w.heap.size a len cap (ints zs) rfl hI1 (ints_one _) (by unfold maxLen; omega) (by omega) (by rw [HS.out]; exact Nat.le_refl _) ?_); intro v2 w2 own2 hg2 hn2; clear hn2; simp only [Nat.zero_add, List.nil_append] at own2; obtain ⟨A2, c2, rfl⟩ := own_slice own2; have hB2 : Below (w.heap.size + 1 + 1 + 1 + 1) _ w2 := (Below.refl _ _).grown hg2 (by rw [HS.out]; exact Nat.le_refl _) (by simp [Value.ownBlock]); have hs2 : w.heap.size + 1 + 1 + 1 < w2.heap.size := (by have := hB2.size; rw [HS.out] at this; omega); have hs2b : w.heap.size + 1 + 1 < w2.heap.size := (by omega); have d0 : w2.cell? ⟨w.heap.size, 0, none⟩ = some (.int .i64 k) := ((bcell hB2).1 _ _ (by omega)).trans (by simp [go_sem]); have d1 : w2.cell? ⟨w.heap.size + 1, 0, none⟩ = some (.int .i64 x) := ((bcell hB2).1 _ _ (by omega)).trans (by simp [go_sem]); have d2 : w2.cell? ⟨w.heap.size + 1 + 1, 0, none⟩ = some (.slice none 0 0) := ((bcell hB2).1 _ _ (by omega)).trans (by simp [go_sem]); have d3 : w2.cell? ⟨w.heap.size + 1 + 1 + 1, 0, none⟩ = some (.bool false) := ((bcell hB2).1 _ _ (by omega)).trans (by simp [go_sem]); have k2 : w2.frozen? ⟨w.heap.size + 1 + 1, 0, none⟩ = false := ((bcell hB2).2 _ _ (by omega)).trans (by simp [go_sem]); have k3 : w2.frozen? ⟨w.heap.size + 1 + 1 + 1, 0, none⟩ = false := ((bcell hB2).2 _ _ (by omega)).trans (by simp [go_sem]))
  obtain ⟨w3, hw3⟩ : ∃ w3, w3 = w2.setCell ⟨w.heap.size + 1 + 1, 0, none⟩ (.slice A2 len c2) := ⟨_, rfl⟩
  have hb3 : Below w.heap.size w w3 := by rw [hw3]; exact (hb1.trans (hB2.mono (by omega))).setCell (p := ⟨w.heap.size + 1 + 1, 0, none⟩) (by show w.heap.size ≤ w.heap.size + 1 + 1; omega) _
  have hs3 : w.heap.size + 1 + 1 + 1 + 1 ≤ w3.heap.size := by have := hB2.size; rw [HS.out] at this; rw [hw3]; simpa using this
  have hc0 : w3.cell? ⟨w.heap.size, 0, none⟩ = some (.int .i64 k) := by rw [hw3, cso (by show _ ≠ _; simp; omega)]; exact d0
  have hc1 : w3.cell? ⟨w.heap.size + 1, 0, none⟩ = some (.int .i64 x) := by rw [hw3, cso (by show _ ≠ _; simp)]; exact d1
  have hc2 : w3.cell? ⟨w.heap.size + 1 + 1, 0, none⟩ = some (.slice A2 len c2) := by rw [hw3]; exact World.cell?_setCell_same _ _ _ d2
  have hc3 : w3.cell? ⟨w.heap.size + 1 + 1 + 1, 0, none⟩ = some (.bool false) := by rw [hw3, cso (by show _ ≠ _; simp)]; exact d3
  have hf2 : w3.frozen? ⟨w.heap.size + 1 + 1, 0, none⟩ = false := by rw [hw3, World.frozen?_setCell]; exact k2
  have hf3 : w3.frozen? ⟨w.heap.size + 1 + 1 + 1, 0, none⟩ = false := by rw [hw3, World.frozen?_setCell]; exact k3
  rw [← hw3]
  clear hw3 d0 d1 d2 d3 k2 k3 own2 hg2 hB2
  refine (HP.out _ _ _).mono ?_
  rintro e w4 ⟨⟨u, pv, rfl⟩, hw4⟩
  have hb4 : Below w3.heap.size w3 w4 := by rw [hw4]; exact (((Below.refl _ w3).alloc (Nat.le_refl _) _).alloc (by simp) _).alloc (by simp; omega) _
  have e2 := ((bcell hb4).1 _ _ (by omega)).trans hc2
  have e3 := ((bcell hb4).1 _ _ (by omega)).trans hc3
  have g2 := ((bcell hb4).2 _ _ (by omega)).trans hf2
  have g3 := ((bcell hb4).2 _ _ (by omega)).trans hf3
  clear hw4
  go_wp2
  refine leaves_cons (f := 31) (args := #[.pointer (some ⟨w.heap.size + 1 + 1, 0, none⟩), .pointer (some ⟨w.heap.size + 1 + 1 + 1, 0, none⟩)]) (by simp) (by simp [go_sem]) ?_
  refine (wriCatch_panicking (w.heap.size + 1 + 1) _ _ u pv [] w4 e2 e3 g2 g3).mono ?_
  rintro e u' w'' ⟨rfl, rfl, hw''⟩
  obtain ⟨q0, q1, hb5⟩ := set2 (w.heap.size + 1 + 1) _ _ _ _ w4 e2 e3 w'' hw''
  clear hw''
  simp [Leaves, settle, results, Try.results20, go_sem, q0, q1]
  exact (hb3.trans (hb4.mono (by omega))).trans (hb5.mono (by omega))

/-- the numbers themselves -/
def ixs {c len : Nat} (l : List (Ix c len)) : List Nat := l.map (·.1)
theorem ixs_snoc {c len : Nat} (l : List (Ix c len)) (y : Ix c len) : ixs (l ++ [y]) = ixs l ++ [y.1] := by simp [ixs]
/-- what the list is when these slices have come -/
def wcon (zs : List Int) (c : Nat) (k x : Int) (pre : List Nat) : List Int := if 0 ≤ k then (match pre[k.toNat]? with | some j => zs.set (j * c) x | none => zs) else zs
theorem wcon_length (zs : List Int) (c : Nat) (k x : Int) (pre : List Nat) : (wcon zs c k x pre).length = zs.length := by
  unfold wcon; split
  · split <;> simp
  · rfl
theorem wcon_other {zs : List Int} {c : Nat} {k x : Int} {pre : List Nat} {j : Nat} (h : ¬ (pre.length : Int) = k) : wcon zs c k x (pre ++ [j]) = wcon zs c k x pre := by
  unfold wcon
  split
  · by_cases hk : k.toNat < pre.length
    · rw [List.getElem?_append_left hk]
    · rw [List.getElem?_eq_none (by simp; omega), List.getElem?_eq_none (by omega)]
  · rfl
theorem wcon_hit {zs : List Int} {c : Nat} {k x : Int} {pre : List Nat} {j : Nat} (h : (pre.length : Int) = k) : wcon zs c k x (pre ++ [j]) = (wcon zs c k x pre).set (j * c) x := by
  subst h
  unfold wcon
  rw [if_pos (by omega), if_pos (by omega)]
  simp
theorem ints_set (zs : List Int) (s : Nat) (x : Int) : (ints zs).set s (.int .i64 x) = ints (zs.set s x) := by simp [ints, List.map_set]
theorem wcon_range {zs : List Int} {c n : Nat} {k x : Int} : wcon zs c k x (List.range n) = if 0 ≤ k ∧ k < n then zs.set (k.toNat * c) x else zs := by
  unfold wcon
  by_cases h : 0 ≤ k
  · rw [if_pos h]
    by_cases h2 : k < n
    · rw [if_pos ⟨h, h2⟩, List.getElem?_range (by omega)]
    · rw [if_neg (by omega), List.getElem?_eq_none (by simp; omega)]
  · rw [if_neg h, if_neg (by omega)]
theorem row_own {β : Type} (n₀ : Nat) (e : TypeId) (size : Nat) (v : Value) (k : Nat) (f : β → List Value) : Own (fun s W => W.ownsRow n₀ e size v k (f s)) := by
  rintro s X Y row hr hg hrow
  refine hr.kept hg ?_
  rcases hr.2 with ⟨rfl, _⟩ | ⟨g, cap, cur, rfl, _, hgb, _⟩
  · exact .inl rfl
  · refine .inr fun e' => ?_
    obtain ⟨o, ho, hc⟩ := hrow g (by simpa [Value.ownBlock] using e'.symm)
    rw [hgb] at ho; cases ho; cases hc

set_option maxRecDepth 100000 in
set_option maxHeartbeats 2000000 in
theorem implChunkWrite (a : Option Addr) (len cap : Nat) (zs : List Int) (c : Nat) (k x : Int) (hl : len * 8 ≤ 140737488351232) (qc1 : 1 ≤ c) (qc2 : c ≤ 9223372036854775807) (w : World) (hI : Rd w w.heap.size 1 a len (ints zs)) :
    Calls Try.prog 20 #[.slice a len cap, .int .i64 c, .int .i64 k, .int .i64 x] w fun e w' => ∃ A c', e = .returned (.tuple #[.slice A len c', .bool false]) ∧ Rd w' w'.heap.size 1 A len (ints (wcon zs c k x (List.range (nCh c len)))) ∧ Below w.heap.size w w' := by
  refine (callsIn_wide (n := 3)).1 ?_
  have hzl : zs.length = len := by have := hI.1; simpa using this
  have HZ := hide hzl
  clear hzl
  obtain ⟨i0, hi, hz0, hz1, hz2⟩ := info_parts infoInt
  have hmf : ∀ (fn : Fn) (first cap : Array Value) (w : World), (Instr.makeFunc fn first cap).run Try.prog w = .ok (.func fn first cap) w := fun _ _ _ _ => rfl
  have hsz1 : ((((w.alloc (.cells #[.int .i64 k] 3)).alloc (.cells #[.int .i64 x] 3)).alloc (.cells #[.slice none 0 0] 22)).alloc (.cells #[.bool false] 4)).heap.size = w.heap.size + 1 + 1 + 1 + 1 := by simp
  have hb1 : Below w.heap.size w ((((w.alloc (.cells #[.int .i64 k] 3)).alloc (.cells #[.int .i64 x] 3)).alloc (.cells #[.slice none 0 0] 22)).alloc (.cells #[.bool false] 4)) := ((((Below.refl _ w).alloc (Nat.le_refl _) _).alloc (by simp) _).alloc (by simp; omega) _).alloc (by simp; omega) _
  have hI1 := hI.below hb1
  have HS := hide hsz1
  clear hsz1
  refine callsIn_of_wp_marks Try.func20 rfl trivial ?_ rfl
  simp only [Try.ntmps20, List.size_toArray, List.length_cons, List.length_nil, Nat.reduceAdd, Nat.reduceSub, Array.replicate_succ, Array.replicate_zero, List.push_toArray, List.append_toArray, List.nil_append, List.cons_append]
  gi_wp2_with (first | (gi_at_builtin; go_must (refine wpListIn_append_rd _ rfl _ _ 22 rfl (w.heap.size + 1 + 1 + 1 + 1) 3 i0 (.int .i64 0) 1 8 Try.underlying22 hi hz0 hz1 hz2 rfl (by decide) (.slice none 0 0) 0 [] rfl (World.ownsRow_nil _ _ _ _) w.heap.size a len cap (ints zs) rfl hI1 (ints_one _) (by unfold maxLen; omega) (by omega) (by rw [HS.out]; exact Nat.le_refl _) ?_); intro v2 w2 own2 hg2 hn2; clear hn2; simp only [Nat.zero_add, List.nil_append] at own2; obtain ⟨A2, c2, rfl⟩ := own_slice own2; have hB2 : Below (w.heap.size + 1 + 1 + 1 + 1) _ w2 := (Below.refl _ _).grown hg2 (by rw [HS.out]; exact Nat.le_refl _) (by simp [Value.ownBlock]); have hs2 : w.heap.size + 1 + 1 + 1 < w2.heap.size := (by have := hB2.size; rw [HS.out] at this; omega); have hs2b : w.heap.size + 1 + 1 < w2.heap.size := (by omega); have d0 : w2.cell? ⟨w.heap.size, 0, none⟩ = some (.int .i64 k) := ((bcell hB2).1 _ _ (by omega)).trans (by simp [go_sem]); have d1 : w2.cell? ⟨w.heap.size + 1, 0, none⟩ = some (.int .i64 x) := ((bcell hB2).1 _ _ (by omega)).trans (by simp [go_sem]); have d2 : w2.cell? ⟨w.heap.size + 1 + 1, 0, none⟩ = some (.slice none 0 0) := ((bcell hB2).1 _ _ (by omega)).trans (by simp [go_sem]); have d3 : w2.cell? ⟨w.heap.size + 1 + 1 + 1, 0, none⟩ = some (.bool false) := ((bcell hB2).1 _ _ (by omega)).trans (by simp [go_sem]); have k2 : w2.frozen? ⟨w.heap.size + 1 + 1, 0, none⟩ = false := ((bcell hB2).2 _ _ (by omega)).trans (by simp [go_sem]); have k3 : w2.frozen? ⟨w.heap.size + 1 + 1 + 1, 0, none⟩ = false := ((bcell hB2).2 _ _ (by omega)).trans (by simp [go_sem])) | (refine ⟨trivial, ?_⟩; gi_at_call 29; refine (chunk_in _ _ _ _ c qc1 _).mono ?_; rintro e w' ⟨rfl, rfl⟩))
  obtain ⟨w3, hw3⟩ : ∃ w3, w3 = w2.setCell ⟨w.heap.size + 1 + 1, 0, none⟩ (.slice A2 len c2) := ⟨_, rfl⟩
  have hb3 : Below w.heap.size w w3 := by rw [hw3]; exact (hb1.trans (hB2.mono (by omega))).setCell (p := ⟨w.heap.size + 1 + 1, 0, none⟩) (by show w.heap.size ≤ w.heap.size + 1 + 1; omega) _
  have hs3 : w.heap.size + 1 + 1 + 1 + 1 ≤ w3.heap.size := by have := hB2.size; rw [HS.out] at this; rw [hw3]; simpa using this
  have hc0 : w3.cell? ⟨w.heap.size, 0, none⟩ = some (.int .i64 k) := by rw [hw3, cso (by show _ ≠ _; simp; omega)]; exact d0
  have hc1 : w3.cell? ⟨w.heap.size + 1, 0, none⟩ = some (.int .i64 x) := by rw [hw3, cso (by show _ ≠ _; simp)]; exact d1
  have hc2 : w3.cell? ⟨w.heap.size + 1 + 1, 0, none⟩ = some (.slice A2 len c2) := by rw [hw3]; exact World.cell?_setCell_same _ _ _ d2
  have hc3 : w3.cell? ⟨w.heap.size + 1 + 1 + 1, 0, none⟩ = some (.bool false) := by rw [hw3, cso (by show _ ≠ _; simp)]; exact d3
  have hf2 : w3.frozen? ⟨w.heap.size + 1 + 1, 0, none⟩ = false := by rw [hw3, World.frozen?_setCell]; exact k2
  have hf3 : w3.frozen? ⟨w.heap.size + 1 + 1 + 1, 0, none⟩ = false := by rw [hw3, World.frozen?_setCell]; exact k3
  have own3 : w3.ownsRow (w.heap.size + 1 + 1 + 1 + 1) 3 1 (.slice A2 len c2) len (ints zs) := by
    rw [hw3]; exact ownsRow_setCell_below own2 (by show w.heap.size + 1 + 1 < _; omega) _
  have hz3 : w2.heap.size = w3.heap.size := by rw [hw3]; simp
  have hcap : len ≤ c2 := by
    rcases own3.2 with ⟨h, h2⟩ | ⟨g, cap', cur, hv, _, _, h, _⟩
    · omega
    · injection hv with _ _ h4; omega
  rw [← hw3, hz3]
  clear hw3 d0 d1 d2 d3 k2 k3 own2 hg2 hB2 hs2 hs2b hz3
  obtain ⟨b, hA⟩ : ∃ b, 0 < len → A2 = some ⟨b, 0, none⟩ ∧ w.heap.size + 1 + 1 + 1 + 1 ≤ b ∧ b < w3.heap.size := by
    rcases own3.2 with ⟨_, h⟩ | ⟨g, cap', cur, hv, hg, hh, _⟩
    · exact ⟨0, fun h' => absurd h' (by omega)⟩
    · injection hv with h1
      exact ⟨g, fun _ => ⟨h1, hg, (Array.getElem?_eq_some_iff.1 hh).1⟩⟩
  have bI := Boxed.new w3 3 (.int .i64 0)
  obtain ⟨W0, hW0⟩ : ∃ W0, W0 = ((w3.alloc (.cells #[.int .i64 0] 3)).alloc (.cells #[.slice A2 len c2] 22)).alloc (.cells #[.int .i64 c] 3) := ⟨_, rfl⟩
  have hs0 : W0.heap.size = w3.heap.size + 1 + 1 + 1 := by rw [hW0]; simp
  have bI0 : Boxed W0 w3.heap.size 3 (.int .i64 0) := by rw [hW0]; exact (bI.alloc _).alloc _
  have hBs : W0.cell? ⟨w3.heap.size + 1, 0, none⟩ = some (.slice A2 len c2) := by rw [hW0]; simp [go_sem]
  have hBn : W0.cell? ⟨w3.heap.size + 1 + 1, 0, none⟩ = some (.int .i64 c) := by rw [hW0]; simp [go_sem]
  have hB0 : Below w3.heap.size w3 W0 := by rw [hW0]; exact (((Below.refl _ w3).alloc (Nat.le_refl _) _).alloc (by simp) _).alloc (by simp; omega) _
  rw [← hW0]
  clear hW0 bI
  have HS0 := hide hs0
  clear hs0
  refine wpIn_rangeFunc_ownG rfl (by decide) (gf := 39) (lb := #[.pointer (some ⟨w3.heap.size + 1, 0, none⟩), .pointer (some ⟨w3.heap.size + 1 + 1, 0, none⟩)]) rfl trivial (enters_of Try.func39 (by kernel_rfl) rfl)
    (chunk_stops 2 (by decide) (w3.heap.size + 1) (w3.heap.size + 1 + 1) len c2 c b 0 A2 hcap hl (fun h => (hA h).1) qc1 qc2 W0 (by rw [HS0.out]; omega) (by rw [HS0.out]; omega) hBs hBn) keepV_t (keepV_b (by rw [HS0.out]; omega) (by rw [HS0.out]; omega)) (Below.refl _ _) (fun _ => rfl)
    (fun (pre : List (Ix c len)) W => (Boxed W w3.heap.size 3 (.int .i64 (pre.length : Int)) ∧ (W.ownsRow (w.heap.size + 1 + 1 + 1 + 1) 3 1 (.slice A2 len c2) len (ints (wcon zs c k x (ixs pre))) ∧ Below (w.heap.size + 1 + 1 + 1 + 1) w3 W)) ∧ w3.heap.size + 1 + 1 + 1 ≤ W.heap.size) (fun _ _ _ => False)
    (OwnFrom.and (OwnFrom.and (Own.from (boxed_own w3.heap.size 3 (fun (pre : List (Ix c len)) => Value.int .i64 (pre.length : Int))) _) (OwnFrom.and (Own.from (row_own _ _ _ _ _ _) _) (ownFrom_below (by omega) (by rw [HS0.out]; omega)))) (fun _ _ _ _ h hg _ => Nat.le_trans h hg.size))
    (fun _ _ _ _ _ h _ _ => h)
    ⟨⟨bI0, by have := own_belowC own3 hB0 (Nat.le_refl _); rw [show wcon zs c k x (ixs ([] : List (Ix c len))) = zs from (by simp [wcon, ixs])]; exact this, hB0.mono (by omega)⟩, by rw [HS0.out]; exact Nat.le_refl _⟩
    (fun y => { tmps := #[.slice a len cap, .int .i64 c, .int .i64 k, .int .i64 x, undef, undef, .pointer (some ⟨w.heap.size, 0, none⟩), .pointer (some ⟨w.heap.size + 1, 0, none⟩), .pointer (some ⟨w.heap.size + 1 + 1, 0, none⟩), .pointer (some ⟨w.heap.size + 1 + 1 + 1, 0, none⟩), .pointer (some ⟨w3.heap.size, 0, none⟩), .slice (some ⟨b, 0 + y.1 * c, none⟩) (chL c len y.1) (chL c len y.1), .func (.func 31) #[] #[.pointer (some ⟨w.heap.size + 1 + 1, 0, none⟩), .pointer (some ⟨w.heap.size + 1 + 1 + 1, 0, none⟩)], .slice a len cap, .slice A2 len c2, .slice A2 len c2, .int .i64 c, .func (.func 39) #[] #[.pointer (some ⟨w3.heap.size + 1, 0, none⟩), .pointer (some ⟨w3.heap.size + 1 + 1, 0, none⟩)], .slice (some ⟨b, 0 + y.1 * c, none⟩) (chL c len y.1) (chL c len y.1), undef, undef, undef, undef, undef, undef, undef, undef, undef], defers := [] }) ?assign ?body ?done ?stop
  case assign =>
    intro l y W K hK
    simp only [chEnc]
    gi_wp2
    simp only [Nat.zero_add] at hK
    exact hK
  case body =>
    rintro l pre y W ⟨⟨hv, hrow, hB⟩, hWs⟩ hlt
    have hci := hv.cell
    have hfi := hv.frozen
    have hck := ((bcell hB).1 _ _ (by omega)).trans hc0
    have hcx := ((bcell hB).1 _ _ (by omega)).trans hc1
    have hsW := hB.size
    obtain ⟨m, hm⟩ : ∃ m, chL c len y.1 = m := ⟨_, rfl⟩
    obtain ⟨s, hs⟩ : ∃ s, y.1 * c = s := ⟨_, rfl⟩
    have hsl : s < len := by rw [← hs]; exact y.2
    have hm1 : 0 < m := by rw [← hm, chL, hs]; split <;> omega
    have hm1i : (0 : Int) < (m : Int) := by omega
    rw [hm, hs, Nat.zero_add]
    have HSY := hide hs
    clear hm hs
    obtain ⟨rfl, hbl, hbs⟩ := hA (by omega)
    have hPl : (ixs pre).length = pre.length := by simp [ixs]
    obtain ⟨N, hN⟩ : ∃ N, wcon zs c k x (ixs pre) = N := ⟨_, rfl⟩
    have hNl : N.length = len := by rw [← hN, wcon_length, HZ.out]
    rw [hN] at hrow
    by_cases hik : (pre.length : Int) = k
    · have hik' : ((pre.length : Int) == k) = true := by simpa using hik
      have HN : Hid (wcon zs c k x (ixs (pre ++ [y])) = N.set s x) := by
        show _ = _
        rw [ixs_snoc, wcon_hit (by rw [hPl]; exact hik), hN, HSY.out]
      clear hik hN
      have hcs := hrow.cellAt s (by omega)
      obtain ⟨u0, hu0⟩ : ∃ u0, (ints N)[s]? = some u0 := ⟨_, List.getElem?_eq_getElem (by simp; omega)⟩
      rw [hu0] at hcs
      have hfs := hrow.frozenAt s
      have hst := hrow.stored s (.int .i64 x)
      rw [ints_set] at hst
      have HST := hide hst
      have hvb : Boxed (W.setCell ⟨b, s, none⟩ (.int .i64 x)) w3.heap.size 3 (.int .i64 (pre.length : Int)) := hv.kept hst.2 (fun e => by simp at e; omega)
      have hcib := hvb.cell
      have hfib := hvb.frozen
      have HU := hide hu0
      clear hst hu0
      gi_wp2
      refine ⟨((KeepsOthers.setCell _ _ _).trans (KeepsOthers.setCell _ _ _)).from _, ?_, ⟨?_, ?_, ?_⟩, by simpa using hWs⟩
      · exact KeepV.trans ⟨Below.heap_setCell _ ⟨b, s, none⟩ _ _ (by show _ ≠ b; omega), Below.heap_setCell _ ⟨b, s, none⟩ _ _ (by show _ ≠ b; omega)⟩ ⟨Below.heap_setCell _ ⟨w3.heap.size, 0, none⟩ _ _ (by show _ ≠ _; simp), Below.heap_setCell _ ⟨w3.heap.size, 0, none⟩ _ _ (by show _ ≠ _; simp; omega)⟩
      · have := hvb.set (.int .i64 ((pre.length : Int) + 1))
        simpa using this
      · rw [HN.out]
        exact HST.out.1.kept (grownBy_setCell' _ _ _) (.inr (by simp [Value.ownBlock]; omega))
      · exact (hB.setCell (p := ⟨b, s, none⟩) hbl _).setCell (p := ⟨w3.heap.size, 0, none⟩) (by show _ ≤ w3.heap.size; omega) _
    · have hik' : ((pre.length : Int) == k) = false := by simpa using hik
      have HN : Hid (wcon zs c k x (ixs (pre ++ [y])) = N) := by
        show _ = _
        rw [ixs_snoc, wcon_other (by rw [hPl]; exact hik), hN]
      clear hik hN
      gi_wp2
      refine ⟨(KeepsOthers.setCell _ _ _).from _, ⟨Below.heap_setCell _ ⟨w3.heap.size, 0, none⟩ _ _ (by show _ ≠ _; simp), Below.heap_setCell _ ⟨w3.heap.size, 0, none⟩ _ _ (by show _ ≠ _; simp; omega)⟩, ⟨?_, ?_, ?_⟩, by simpa using hWs⟩
      · have := hv.set (.int .i64 ((pre.length : Int) + 1))
        simpa using this
      · rw [HN.out]
        exact hrow.kept (grownBy_setCell' _ _ _) (.inr (by simp [Value.ownBlock]; omega))
      · exact hB.setCell (p := ⟨w3.heap.size, 0, none⟩) (by show _ ≤ w3.heap.size; omega) _
  case done =>
    rintro D ys W hD hS ⟨⟨hv, hr5, hB⟩, hWs⟩ hK
    rw [show ixs ys = List.range (nCh c len) from hS] at hr5
    have e2 := ((bcell hB).1 _ _ (by omega)).trans hc2
    have e3 := ((bcell hB).1 _ _ (by omega)).trans hc3
    have g2 := ((bcell hB).2 _ _ (by omega)).trans hf2
    have g3 := ((bcell hB).2 _ _ (by omega)).trans hf3
    have hsD : w3.heap.size + 1 + 1 + 1 ≤ D := by rw [← HS0.out]; exact hD
    clear hv
    gi_wp2
    obtain ⟨W2, hW2⟩ : ∃ W2, W2 = (W.setCell ⟨w.heap.size + 1 + 1, 0, none⟩ (.slice A2 len c2)).setCell ⟨w.heap.size + 1 + 1 + 1, 0, none⟩ (.bool false) := ⟨_, rfl⟩
    rw [← hW2]
    obtain ⟨q2, q3, hbW⟩ := set2 (w.heap.size + 1 + 1) _ _ _ _ W e2 e3 W2 hW2
    have hK2 : W2.heap[D]? = some (.deferred (some [])) := by rw [hW2]; exact ((KeepsOthers.setCell _ _ _).trans (KeepsOthers.setCell _ _ _)).same D _ hK rfl
    have hr6 : W2.ownsRow (w.heap.size + 1 + 1 + 1 + 1) 3 1 (.slice A2 len c2) len (ints (wcon zs c k x (List.range (nCh c len)))) := by
      rw [hW2]
      exact ownsRow_setCell_below (ownsRow_setCell_below hr5 (by show w.heap.size + 1 + 1 < _; omega) _) (by show w.heap.size + 1 + 1 + 1 < _; omega) _
    have hb6 : Below w.heap.size w W2 := (hb3.trans (hB.mono (by omega))).trans (hbW.mono (by omega))
    clear hW2 hbW hr5 e2 e3 g2 g3
    have hbD : Below D W2 (W2.putObj D (.deferred none)) := ⟨rfl, rfl, rfl, (grownBy_putObj' W2 D (.deferred none)).size, fun k hk => (grownBy_putObj' W2 D (.deferred none)).block k (by have := (Array.getElem?_eq_some_iff.1 hK2).1; omega) (fun e => by cases e; omega)⟩
    refine leave_mark hK2 (by simp [go_sem]) (wriCatch_idle _ _ _ _) ⟨.tuple #[.slice A2 len c2, .bool false], ?_, A2, c2, rfl, Rd.of_own (ownsRow_putObj hr6 _ hK2 rfl), hb6.trans (hbD.mono (by omega))⟩
    have q2' := ((bcell hbD).1 _ _ (by omega)).trans q2
    have q3' := ((bcell hbD).1 _ _ (by omega)).trans q3
    simp [results, Try.results20, go_sem, q2', q3']
  case stop =>
    rintro D c' pre W _ _ h _
    exact h.elim
end Go.Proofs.Ytiihcdoemgmjbaa
