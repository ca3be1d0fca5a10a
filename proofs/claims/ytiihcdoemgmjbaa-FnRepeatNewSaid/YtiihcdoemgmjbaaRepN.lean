/-
  impl.RepeatNew: Repeat of a copy, all cells of the result written, the copy handed back.
-/
import Derived.Test.YtiihcdoemgmjbaaRepI
namespace Go.Proofs.Ytiihcdoemgmjbaa
open Go.RowKit
set_option linter.unusedVariables false
set_option linter.unusedSimpArgs false

theorem set2 (b : Nat) (x0 x1 y0 y1 : Value) (w : World) (h0 : w.cell? ⟨b, 0, none⟩ = some x0) (h1 : w.cell? ⟨b + 1, 0, none⟩ = some x1) (W : World)
    (hW : W = (w.setCell ⟨b, 0, none⟩ y0).setCell ⟨b + 1, 0, none⟩ y1) :
    W.cell? ⟨b, 0, none⟩ = some y0 ∧ W.cell? ⟨b + 1, 0, none⟩ = some y1 ∧ Below b w W := by
  subst hW
  refine ⟨?_, ?_, ((Below.refl _ w).setCell (p := ⟨b, 0, none⟩) (Nat.le_refl _) _).setCell (p := ⟨b + 1, 0, none⟩) (Nat.le_succ _) _⟩
  · rw [cso (by show _ ≠ _; simp)]
    exact World.cell?_setCell_same _ _ _ h0
  · exact World.cell?_setCell_same _ _ _ (u := x1) (by rw [cso (by show _ ≠ _; simp)]; exact h1)
theorem own_below {w w' : World} {base B : Nat} {e : TypeId} {sz : Nat} {v : Value} {n : Nat} {xs : List Value} (h : w.ownsRow base e sz v n xs) (hb : Below B w w') (hB : w.heap.size ≤ B) : w'.ownsRow base e sz v n xs :=
  ⟨h.1, h.2.imp id fun ⟨g, cap, cur, e1, e2, e3, e4⟩ => ⟨g, cap, cur, e1, e2, (hb.block g (Nat.lt_of_lt_of_le (Array.getElem?_eq_some_iff.1 e3).1 hB)).trans e3, e4⟩⟩
theorem repNCatch_panicking (b : Nat) (x0 x1 : Value) (u : TypeId) (pv : Value) (older : List PanicEntry) (w : World) (h0 : w.cell? ⟨b, 0, none⟩ = some x0) (h1 : w.cell? ⟨b + 1, 0, none⟩ = some x1) (f0 : w.frozen? ⟨b, 0, none⟩ = false) (f1 : w.frozen? ⟨b + 1, 0, none⟩ = false) :
    CallsD Try.prog 38 #[.pointer (some ⟨b, 0, none⟩), .pointer (some ⟨b + 1, 0, none⟩)] (.panicking ({ v := .iface u pv, recovered := false } :: older)) w fun e u' w' =>
      e = .returned (.tuple #[]) ∧ u' = .panicking ({ v := .iface u pv, recovered := true } :: older) ∧ w' = (w.setCell ⟨b, 0, none⟩ (.slice none 0 0)).setCell ⟨b + 1, 0, none⟩ (.bool true) := by
  refine callsD_of_wpS Try.func38 rfl fun c₀ cs hu => ?_
  apply wpS_seq
  apply wpS_region
  simp [wpOpsS, go_sem, recoverD, hu, Try.ntmps38, Exit.thenS]
  refine wpS_cond (t := true) (by simp [Act.eval, Array.replicate]) ?_
  simp only [if_true]
  apply wpS_region
  simp [wpOpsS, go_sem, h0, h1, f0, f1, bodyPostS, results, Try.results38]
theorem repNCatch_idle (p0 p1 : Addr) (w : World) :
    CallsD Try.prog 38 #[.pointer (some p0), .pointer (some p1)] .returning w fun e u' w' => e = .returned (.tuple #[]) ∧ u' = .returning ∧ w' = w := by
  refine callsD_of_wpS Try.func38 rfl fun c₀ cs hu => ?_
  apply wpS_seq
  apply wpS_region
  simp [wpOpsS, go_sem, recoverD, hu, Try.ntmps38, Exit.thenS]
  refine wpS_cond (t := false) (by simp [Act.eval, Array.replicate]) ?_
  simp only [Bool.false_eq_true, if_false]
  refine wpS_of_wp (wp_skip ?_)
  cases c₀
  simp_all [bodyPostS, results, Try.results38]

set_option maxRecDepth 100000 in
set_option maxHeartbeats 2000000 in
theorem implRepeatNew_panic (a : Option Addr) (len cap : Nat) (zs : List Int) (cnt x : Int) (hl : len * 8 ≤ 140737488351232) (hp : ∀ a' cap' w, Calls Try.prog 35 #[.slice a' len cap', .int .i64 cnt] w fun e w' => (∃ u pv, e = .panicked [{ v := .iface u pv, recovered := false }]) ∧ w' = w) (w : World) (hI : Rd w w.heap.size 1 a len (ints zs)) :
    Calls Try.prog 27 #[.slice a len cap, .int .i64 cnt, .int .i64 x] w fun e w' => e = .returned (.tuple #[.slice none 0 0, .bool true]) ∧ Below w.heap.size w w' := by
  have HP := hide hp
  clear hp
  obtain ⟨i0, hi, hz0, hz1, hz2⟩ := info_parts infoInt
  have hmf : ∀ (fn : Fn) (first cap : Array Value) (w : World), (Instr.makeFunc fn first cap).run Try.prog w = .ok (.func fn first cap) w := fun _ _ _ _ => rfl
  have hsz1 : ((w.alloc (.cells #[.slice none 0 0] 22)).alloc (.cells #[.bool false] 4)).heap.size = w.heap.size + 1 + 1 := by simp
  have hb1 : Below w.heap.size w ((w.alloc (.cells #[.slice none 0 0] 22)).alloc (.cells #[.bool false] 4)) := ((Below.refl _ w).alloc (Nat.le_refl _) _).alloc (by simp) _
  have hI1 := hI.below hb1
  have HS := hide hsz1
  clear hsz1
  go_enter_defers Try.func27, Try.ntmps27
  go_wp2_with (at_builtin; go_must (refine wpList_append_rd _ rfl _ _ 22 rfl (w.heap.size + 1 + 1) 3 i0 (.int .i64 0) 1 8 Try.underlying22 hi hz0 hz1 hz2 rfl (by decide) (.slice none 0 0) 0 [] rfl (World.ownsRow_nil _ _ _ _) w.heap.size a len cap (ints zs) rfl hI1 (ints_one _) (by unfold maxLen; omega) (by omega) (by rw [HS.out]; exact Nat.le_refl _) ?_); intro v2 w2 own2 hg2 hn2; clear hn2; simp only [Nat.zero_add, List.nil_append] at own2; obtain ⟨A2, c2, rfl⟩ := own_slice own2; have hB2 : Below (w.heap.size + 1 + 1) _ w2 := (Below.refl _ _).grown hg2 (by rw [HS.out]; exact Nat.le_refl _) (by simp [Value.ownBlock]); have d0 : w2.cell? ⟨w.heap.size, 0, none⟩ = some (.slice none 0 0) := ((bcell hB2).1 _ _ (by omega)).trans (by simp [go_sem]); have d1 : w2.cell? ⟨w.heap.size + 1, 0, none⟩ = some (.bool false) := ((bcell hB2).1 _ _ (by omega)).trans (by simp [go_sem]); have k0 : w2.frozen? ⟨w.heap.size, 0, none⟩ = false := ((bcell hB2).2 _ _ (by omega)).trans (by simp [go_sem]); have k1 : w2.frozen? ⟨w.heap.size + 1, 0, none⟩ = false := ((bcell hB2).2 _ _ (by omega)).trans (by simp [go_sem]))
  refine (HP.out _ _ _).mono ?_
  rintro e w3 ⟨⟨u, pv, rfl⟩, hw3⟩
  have hb3 : Below w.heap.size w w3 := by rw [hw3]; exact (hb1.trans (hB2.mono (by omega))).setCell (p := ⟨w.heap.size, 0, none⟩) (Nat.le_refl _) _
  have hc0 : w3.cell? ⟨w.heap.size, 0, none⟩ = some (.slice A2 len c2) := by rw [hw3]; exact World.cell?_setCell_same _ _ _ d0
  have hc1 : w3.cell? ⟨w.heap.size + 1, 0, none⟩ = some (.bool false) := by rw [hw3, cso (by show _ ≠ _; simp)]; exact d1
  have hf0 : w3.frozen? ⟨w.heap.size, 0, none⟩ = false := by rw [hw3, World.frozen?_setCell]; exact k0
  have hf1 : w3.frozen? ⟨w.heap.size + 1, 0, none⟩ = false := by rw [hw3, World.frozen?_setCell]; exact k1
  clear hw3 d0 d1 k0 k1 own2 hg2 hB2
  go_wp2
  refine leaves_cons (f := 38) (args := #[.pointer (some ⟨w.heap.size, 0, none⟩), .pointer (some ⟨w.heap.size + 1, 0, none⟩)]) (by simp) (by simp [go_sem]) ?_
  refine (repNCatch_panicking w.heap.size _ _ u pv [] w3 hc0 hc1 hf0 hf1).mono ?_
  rintro e u' w'' ⟨rfl, rfl, hw''⟩
  obtain ⟨e0, e1, hb2⟩ := set2 w.heap.size _ _ _ _ w3 hc0 hc1 w'' hw''
  clear hw''
  simp [Leaves, settle, results, Try.results27, go_sem, e0, e1]
  exact hb3.trans hb2

set_option maxRecDepth 100000 in
set_option maxHeartbeats 2000000 in
theorem implRepeatNew (a : Option Addr) (len cap : Nat) (zs : List Int) (cnt N : Nat) (x : Int) (hN : N = cnt * len) (hb : N * 8 ≤ 140737488351232) (hl : len * 8 ≤ 140737488351232) (hcnt : cnt ≤ 9223372036854775807) (w : World) (hI : Rd w w.heap.size 1 a len (ints zs)) :
    Calls Try.prog 27 #[.slice a len cap, .int .i64 cnt, .int .i64 x] w fun e w' => ∃ A c, e = .returned (.tuple #[.slice A len c, .bool false]) ∧ Rd w' w'.heap.size 1 A len (ints zs) ∧ Below w.heap.size w w' := by
  have hrep := fun (a' : Option Addr) (cap' : Nat) w' hI' => slicesRepeat a' len cap' zs cnt N hN hb hl hcnt w' hI'
  have HR := hide hrep
  clear hrep hN
  obtain ⟨i0, hi, hz0, hz1, hz2⟩ := info_parts infoInt
  have hmf : ∀ (fn : Fn) (first cap : Array Value) (w : World), (Instr.makeFunc fn first cap).run Try.prog w = .ok (.func fn first cap) w := fun _ _ _ _ => rfl
  have hsz1 : ((w.alloc (.cells #[.slice none 0 0] 22)).alloc (.cells #[.bool false] 4)).heap.size = w.heap.size + 1 + 1 := by simp
  have hb1 : Below w.heap.size w ((w.alloc (.cells #[.slice none 0 0] 22)).alloc (.cells #[.bool false] 4)) := ((Below.refl _ w).alloc (Nat.le_refl _) _).alloc (by simp) _
  have hI1 := hI.below hb1
  have HS := hide hsz1
  clear hsz1
  go_enter_defers Try.func27, Try.ntmps27
  go_wp2_with (at_builtin; go_must (refine wpList_append_rd _ rfl _ _ 22 rfl (w.heap.size + 1 + 1) 3 i0 (.int .i64 0) 1 8 Try.underlying22 hi hz0 hz1 hz2 rfl (by decide) (.slice none 0 0) 0 [] rfl (World.ownsRow_nil _ _ _ _) w.heap.size a len cap (ints zs) rfl hI1 (ints_one _) (by unfold maxLen; omega) (by omega) (by rw [HS.out]; exact Nat.le_refl _) ?_); intro v2 w2 own2 hg2 hn2; clear hn2; simp only [Nat.zero_add, List.nil_append] at own2; obtain ⟨A2, c2, rfl⟩ := own_slice own2; have hB2 : Below (w.heap.size + 1 + 1) _ w2 := (Below.refl _ _).grown hg2 (by rw [HS.out]; exact Nat.le_refl _) (by simp [Value.ownBlock]); have d0 : w2.cell? ⟨w.heap.size, 0, none⟩ = some (.slice none 0 0) := ((bcell hB2).1 _ _ (by omega)).trans (by simp [go_sem]); have d1 : w2.cell? ⟨w.heap.size + 1, 0, none⟩ = some (.bool false) := ((bcell hB2).1 _ _ (by omega)).trans (by simp [go_sem]); have k0 : w2.frozen? ⟨w.heap.size, 0, none⟩ = false := ((bcell hB2).2 _ _ (by omega)).trans (by simp [go_sem]); have k1 : w2.frozen? ⟨w.heap.size + 1, 0, none⟩ = false := ((bcell hB2).2 _ _ (by omega)).trans (by simp [go_sem]))
  obtain ⟨w3, hw3⟩ : ∃ w3, w3 = w2.setCell ⟨w.heap.size, 0, none⟩ (.slice A2 len c2) := ⟨_, rfl⟩
  have hb3 : Below w.heap.size w w3 := by rw [hw3]; exact (hb1.trans (hB2.mono (by omega))).setCell (p := ⟨w.heap.size, 0, none⟩) (Nat.le_refl _) _
  have hc0 : w3.cell? ⟨w.heap.size, 0, none⟩ = some (.slice A2 len c2) := by rw [hw3]; exact World.cell?_setCell_same _ _ _ d0
  have hc1 : w3.cell? ⟨w.heap.size + 1, 0, none⟩ = some (.bool false) := by rw [hw3, cso (by show _ ≠ _; simp)]; exact d1
  have hf0 : w3.frozen? ⟨w.heap.size, 0, none⟩ = false := by rw [hw3, World.frozen?_setCell]; exact k0
  have hf1 : w3.frozen? ⟨w.heap.size + 1, 0, none⟩ = false := by rw [hw3, World.frozen?_setCell]; exact k1
  have hs3 : w.heap.size + 1 + 1 ≤ w3.heap.size := by have := hB2.size; rw [HS.out] at this; rw [hw3]; simpa using this
  have own3 : w3.ownsRow (w.heap.size + 1 + 1) 3 1 (.slice A2 len c2) len (ints zs) := by
    rw [hw3]; exact ownsRow_setCell_below own2 (by show w.heap.size < _; omega) _
  have hr3 : Rd w3 w3.heap.size 1 A2 len (ints zs) := Rd.of_own own3
  rw [← hw3]
  clear hw3 d0 d1 k0 k1 own2 hg2 hB2
  refine (HR.out A2 c2 w3 hr3).mono ?_
  rintro e w4 ⟨g, rfl, own4, hb4⟩
  clear HR
  go_wp2
  go_loopw [18] (fun i wr => ∃ (j : Nat) (cs : List Value), j ≤ N ∧ i = .int .i64 j ∧ wr.ownsRow w3.heap.size 3 1 (.slice (some ⟨g, 0, none⟩) N N) N cs ∧ Below w3.heap.size w3 wr) (fun i _ => N - (intOf i).toNat)
  case atStart => exact ⟨0, _, Nat.zero_le _, rfl, own4, hb4⟩
  case round =>
    obtain ⟨j, cs, hj, rfl, hownj, hBj⟩ := hrel
    clear own4 hb4
    by_cases hlt2 : j < N
    · have hgb : w3.heap.size ≤ g := by
        rcases hownj.2 with ⟨h, _⟩ | ⟨g', cap', cur, hv, hg, _⟩
        · cases h
        · injection hv with h1; injection h1 with h1; injection h1 with h1; subst h1; exact hg
      have hcj := hownj.cellAt j (by omega)
      have hfj := hownj.frozenAt j
      obtain ⟨u, hu⟩ : ∃ u, cs[j]? = some u := ⟨cs[j]'(by have := hownj.1; omega), List.getElem?_eq_getElem _⟩
      rw [hu] at hcj
      have hst := hownj.stored j (.int .i64 x)
      have HST := hide hst
      have HU := hide hu
      clear hst hu
      go_wp2
      go_roundw
      case rel => exact ⟨j + 1, _, by omega, by go_num, HST.out.1, hBj.setCell (p := ⟨g, j, none⟩) hgb _⟩
      case measure => simp [intOf]; omega
    · obtain rfl : j = N := by omega
      have e0 := ((bcell hBj).1 w.heap.size 0 (by omega)).trans hc0
      have e1 := ((bcell hBj).1 (w.heap.size + 1) 0 (by omega)).trans hc1
      have m0 := ((bcell hBj).2 w.heap.size 0 (by omega)).trans hf0
      have m1 := ((bcell hBj).2 (w.heap.size + 1) 0 (by omega)).trans hf1
      have hsj := hBj.size
      have hr5 : Rd wr w3.heap.size 1 A2 len (ints zs) := hr3.below hBj
      go_wp2
      obtain ⟨W, hW⟩ : ∃ W, W = (wr.setCell ⟨w.heap.size, 0, none⟩ (.slice A2 len c2)).setCell ⟨w.heap.size + 1, 0, none⟩ (.bool false) := ⟨_, rfl⟩
      rw [← hW]
      obtain ⟨q0, q1, hbW⟩ := set2 w.heap.size _ _ _ _ wr e0 e1 W hW
      have hr6 : Rd W W.heap.size 1 A2 len (ints zs) := by
        rw [hW]
        exact Rd.of_own (ownsRow_setCell_below (ownsRow_setCell_below (own_below own3 hBj (Nat.le_refl _)) (by show w.heap.size < _; omega) _) (by show w.heap.size + 1 < _; omega) _)
      have hb6 : Below w.heap.size w W := (hb3.trans (hBj.mono (by omega))).trans hbW
      clear hW hbW hr5
      refine leaves_cons (f := 38) (args := #[.pointer (some ⟨w.heap.size, 0, none⟩), .pointer (some ⟨w.heap.size + 1, 0, none⟩)]) (by simp) (by simp [go_sem]) ?_
      refine (repNCatch_idle _ _ W).mono ?_
      rintro e u' w'' ⟨rfl, rfl, hw''⟩
      obtain rfl := hw''.symm
      simp [Leaves, settle, results, Try.results27, go_sem, q0, q1]
      exact ⟨hr6, hb6⟩
end Go.Proofs.Ytiihcdoemgmjbaa
