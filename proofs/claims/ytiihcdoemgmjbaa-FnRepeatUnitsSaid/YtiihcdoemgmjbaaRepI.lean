/-
  slices.Repeat where it panics; impl.Repeat with its deferred function.
-/
import Derived.Test.YtiihcdoemgmjbaaRep
namespace Go.Proofs.Ytiihcdoemgmjbaa
open Go.RowKit
set_option linter.unusedVariables false
set_option linter.unusedSimpArgs false

set_option maxHeartbeats 1000000 in
theorem repeatNeg (a : Option Addr) (len cap : Nat) (cnt : Int) (hc : cnt < 0) (w : World) :
    Calls Try.prog 35 #[.slice a len cap, .int .i64 cnt] w fun e w' => (∃ u pv, e = .panicked [{ v := .iface u pv, recovered := false }]) ∧ w' = w := by
  go_enter Try.func35, Try.ntmps35
  go_wp2
  exact ⟨rfl, ⟨_, _, rfl⟩, rfl⟩

set_option maxHeartbeats 1000000 in
theorem repeatOver (a : Option Addr) (len cap cnt : Nat) (hl : len ≤ 9223372036854775807) (hcnt : cnt ≤ 9223372036854775807) (hN : 9223372036854775807 < len * cnt) (w : World) :
    Calls Try.prog 35 #[.slice a len cap, .int .i64 cnt] w fun e w' => (∃ u pv, e = .panicked [{ v := .iface u pv, recovered := false }]) ∧ w' = w := by
  have hmul := Try.bits_Mul len cnt (by omega) (by omega)
  obtain ⟨hi, hhi⟩ : ∃ hi, len * cnt / 18446744073709551616 = hi := ⟨_, rfl⟩
  obtain ⟨lo, hlo⟩ : ∃ lo, len * cnt % 18446744073709551616 = lo := ⟨_, rfl⟩
  have hor : 0 < hi ∨ (hi = 0 ∧ 9223372036854775807 < lo) := by omega
  rw [hhi, hlo] at hmul
  have HM := hide hmul
  have hcnn : ¬ ((cnt : Int) < 0) := by omega
  clear hmul hhi hlo hN
  rcases hor with h | ⟨rfl, h⟩
  · have h' : (0 : Int) < (hi : Int) := by omega
    go_enter Try.func35, Try.ntmps35
    go_wp2_with fail
    refine (HM.out _).mono ?_
    rintro e w' ⟨rfl, hw⟩
    obtain rfl := hw.symm
    go_wp2
    exact ⟨rfl, ⟨_, _, rfl⟩, rfl⟩
  · have h' : (9223372036854775807 : Int) < (lo : Int) := by omega
    go_enter Try.func35, Try.ntmps35
    go_wp2_with fail
    refine (HM.out _).mono ?_
    rintro e w' ⟨rfl, hw⟩
    obtain rfl := hw.symm
    go_wp2
    exact ⟨rfl, ⟨_, _, rfl⟩, rfl⟩

theorem cso {w : World} {p q : Addr} {v : Value} (h : q.block ≠ p.block) : (w.setCell p v).cell? q = w.cell? q := World.cell?_of_block (w := w) (Below.heap_setCell w p v q.block h)
theorem set4 (b : Nat) (x0 x1 x2 x3 y0 y1 y2 y3 : Value) (w : World) (h0 : w.cell? ⟨b, 0, none⟩ = some x0) (h1 : w.cell? ⟨b + 1, 0, none⟩ = some x1) (h2 : w.cell? ⟨b + 1 + 1, 0, none⟩ = some x2) (h3 : w.cell? ⟨b + 1 + 1 + 1, 0, none⟩ = some x3) (W : World)
    (hW : W = (((w.setCell ⟨b, 0, none⟩ y0).setCell ⟨b + 1, 0, none⟩ y1).setCell ⟨b + 1 + 1, 0, none⟩ y2).setCell ⟨b + 1 + 1 + 1, 0, none⟩ y3) :
    W.cell? ⟨b, 0, none⟩ = some y0 ∧ W.cell? ⟨b + 1, 0, none⟩ = some y1 ∧ W.cell? ⟨b + 1 + 1, 0, none⟩ = some y2 ∧ W.cell? ⟨b + 1 + 1 + 1, 0, none⟩ = some y3 ∧ Below b w W := by
  subst hW
  refine ⟨?_, ?_, ?_, ?_, ((((Below.refl _ w).setCell (p := ⟨b, 0, none⟩) (Nat.le_refl _) _).setCell (p := ⟨b + 1, 0, none⟩) (Nat.le_succ _) _).setCell (p := ⟨b + 1 + 1, 0, none⟩) (show b ≤ b + 1 + 1 by omega) _).setCell (p := ⟨b + 1 + 1 + 1, 0, none⟩) (show b ≤ b + 1 + 1 + 1 by omega) _⟩
  · rw [cso (by show _ ≠ _; first | (simp; done) | (simp; omega)), cso (by show _ ≠ _; first | (simp; done) | (simp; omega)), cso (by show _ ≠ _; first | (simp; done) | (simp; omega))]
    exact World.cell?_setCell_same _ _ _ h0
  · rw [cso (by show _ ≠ _; first | (simp; done) | (simp; omega)), cso (by show _ ≠ _; first | (simp; done) | (simp; omega))]
    exact World.cell?_setCell_same _ _ _ (u := x1) (by rw [cso (by show _ ≠ _; first | (simp; done) | (simp; omega))]; exact h1)
  · rw [cso (by show _ ≠ _; first | (simp; done) | (simp; omega))]
    exact World.cell?_setCell_same _ _ _ (u := x2) (by rw [cso (by show _ ≠ _; first | (simp; done) | (simp; omega)), cso (by show _ ≠ _; first | (simp; done) | (simp; omega))]; exact h2)
  · exact World.cell?_setCell_same _ _ _ (u := x3) (by rw [cso (by show _ ≠ _; first | (simp; done) | (simp; omega)), cso (by show _ ≠ _; first | (simp; done) | (simp; omega)), cso (by show _ ≠ _; first | (simp; done) | (simp; omega))]; exact h3)
theorem repCatch_panicking (b : Nat) (x0 x1 x2 x3 : Value) (u : TypeId) (pv : Value) (older : List PanicEntry) (w : World) (h0 : w.cell? ⟨b, 0, none⟩ = some x0) (h1 : w.cell? ⟨b + 1, 0, none⟩ = some x1) (h2 : w.cell? ⟨b + 1 + 1, 0, none⟩ = some x2) (h3 : w.cell? ⟨b + 1 + 1 + 1, 0, none⟩ = some x3) (f0 : w.frozen? ⟨b, 0, none⟩ = false) (f1 : w.frozen? ⟨b + 1, 0, none⟩ = false) (f2 : w.frozen? ⟨b + 1 + 1, 0, none⟩ = false) (f3 : w.frozen? ⟨b + 1 + 1 + 1, 0, none⟩ = false) :
    CallsD Try.prog 34 #[.pointer (some ⟨b, 0, none⟩), .pointer (some ⟨b + 1, 0, none⟩), .pointer (some ⟨b + 1 + 1, 0, none⟩), .pointer (some ⟨b + 1 + 1 + 1, 0, none⟩)] (.panicking ({ v := .iface u pv, recovered := false } :: older)) w fun e u' w' =>
      e = .returned (.tuple #[]) ∧ u' = .panicking ({ v := .iface u pv, recovered := true } :: older) ∧ w' = (((w.setCell ⟨b, 0, none⟩ (.slice none 0 0)).setCell ⟨b + 1, 0, none⟩ (.int .i64 0)).setCell ⟨b + 1 + 1, 0, none⟩ (.bool false)).setCell ⟨b + 1 + 1 + 1, 0, none⟩ (.bool true) := by
  refine callsD_of_wpS Try.func34 rfl fun c₀ cs hu => ?_
  apply wpS_seq
  apply wpS_region
  simp [wpOpsS, go_sem, recoverD, hu, Try.ntmps34, Exit.thenS]
  refine wpS_cond (t := true) (by simp [Act.eval, Array.replicate]) ?_
  simp only [if_true]
  apply wpS_region
  simp [wpOpsS, go_sem, h0, h1, h2, h3, f0, f1, f2, f3, bodyPostS, results, Try.results34]
theorem repCatch_idle (p0 p1 p2 p3 : Addr) (w : World) :
    CallsD Try.prog 34 #[.pointer (some p0), .pointer (some p1), .pointer (some p2), .pointer (some p3)] .returning w fun e u' w' => e = .returned (.tuple #[]) ∧ u' = .returning ∧ w' = w := by
  refine callsD_of_wpS Try.func34 rfl fun c₀ cs hu => ?_
  apply wpS_seq
  apply wpS_region
  simp [wpOpsS, go_sem, recoverD, hu, Try.ntmps34, Exit.thenS]
  refine wpS_cond (t := false) (by simp [Act.eval, Array.replicate]) ?_
  simp only [Bool.false_eq_true, if_false]
  refine wpS_of_wp (wp_skip ?_)
  cases c₀
  simp_all [bodyPostS, results, Try.results34]

set_option maxRecDepth 100000 in
set_option maxHeartbeats 2000000 in
theorem implRepeat_panic (a : Option Addr) (len cap : Nat) (cnt : Int) (hp : ∀ w, Calls Try.prog 35 #[.slice a len cap, .int .i64 cnt] w fun e w' => (∃ u pv, e = .panicked [{ v := .iface u pv, recovered := false }]) ∧ w' = w) (w : World) :
    Calls Try.prog 24 #[.slice a len cap, .int .i64 cnt] w fun e w' => e = .returned (.tuple #[.slice none 0 0, .int .i64 0, .bool false, .bool true]) ∧ Below w.heap.size w w' := by
  have HP := hide hp
  clear hp
  have hmf : ∀ (fn : Fn) (first cap : Array Value) (w : World), (Instr.makeFunc fn first cap).run Try.prog w = .ok (.func fn first cap) w := fun _ _ _ _ => rfl
  go_enter_defers Try.func24, Try.ntmps24
  go_wp2_with fail
  refine (HP.out _).mono ?_
  rintro e w1 ⟨⟨u, pv, rfl⟩, hw1⟩
  have hb1 : Below w.heap.size w w1 := by rw [hw1]; exact ((((Below.refl _ w).alloc (Nat.le_refl _) _).alloc (by simp) _).alloc (by simp; omega) _).alloc (by simp; omega) _
  have hc0 : w1.cell? ⟨w.heap.size, 0, none⟩ = some (.slice none 0 0) := by rw [hw1]; simp [go_sem]
  have hc1 : w1.cell? ⟨w.heap.size + 1, 0, none⟩ = some (.int .i64 0) := by rw [hw1]; simp [go_sem]
  have hc2 : w1.cell? ⟨w.heap.size + 1 + 1, 0, none⟩ = some (.bool false) := by rw [hw1]; simp [go_sem]
  have hc3 : w1.cell? ⟨w.heap.size + 1 + 1 + 1, 0, none⟩ = some (.bool false) := by rw [hw1]; simp [go_sem]
  have hf0 : w1.frozen? ⟨w.heap.size, 0, none⟩ = false := by rw [hw1]; simp [go_sem]
  have hf1 : w1.frozen? ⟨w.heap.size + 1, 0, none⟩ = false := by rw [hw1]; simp [go_sem]
  have hf2 : w1.frozen? ⟨w.heap.size + 1 + 1, 0, none⟩ = false := by rw [hw1]; simp [go_sem]
  have hf3 : w1.frozen? ⟨w.heap.size + 1 + 1 + 1, 0, none⟩ = false := by rw [hw1]; simp [go_sem]
  clear hw1
  go_wp2
  refine leaves_cons (f := 34) (args := #[.pointer (some ⟨w.heap.size, 0, none⟩), .pointer (some ⟨w.heap.size + 1, 0, none⟩), .pointer (some ⟨w.heap.size + 1 + 1, 0, none⟩), .pointer (some ⟨w.heap.size + 1 + 1 + 1, 0, none⟩)]) (by simp) (by simp [go_sem]) ?_
  refine (repCatch_panicking w.heap.size _ _ _ _ u pv [] w1 hc0 hc1 hc2 hc3 hf0 hf1 hf2 hf3).mono ?_
  rintro e u' w'' ⟨rfl, rfl, hw''⟩
  obtain ⟨e0, e1, e2, e3, hb2⟩ := set4 w.heap.size _ _ _ _ _ _ _ _ w1 hc0 hc1 hc2 hc3 w'' hw''
  clear hw''
  simp [Leaves, settle, results, Try.results24, go_sem, e0, e1, e2, e3]
  exact hb1.trans hb2

set_option maxRecDepth 100000 in
set_option maxHeartbeats 2000000 in
theorem implRepeat (a : Option Addr) (len cap : Nat) (zs : List Int) (cnt N : Nat) (hN : N = cnt * len) (hb : N * 8 ≤ 140737488351232) (hl : len * 8 ≤ 140737488351232) (hcnt : cnt ≤ 9223372036854775807) (w : World) (hI : Rd w w.heap.size 1 a len (ints zs)) :
    Calls Try.prog 24 #[.slice a len cap, .int .i64 cnt] w fun e w' => ∃ A, e = .returned (.tuple #[.slice A N N, .int .i64 N, .bool false, .bool false]) ∧ w'.ownsRow w.heap.size 3 1 (.slice A N N) N (ints (rep cnt zs)) ∧ Below w.heap.size w w' := by
  obtain ⟨w1, hw1⟩ : ∃ w1, w1 = (((w.alloc (.cells #[.slice none 0 0] 22)).alloc (.cells #[.int .i64 0] 3)).alloc (.cells #[.bool false] 4)).alloc (.cells #[.bool false] 4) := ⟨_, rfl⟩
  have hb1 : Below w.heap.size w w1 := by rw [hw1]; exact ((((Below.refl _ w).alloc (Nat.le_refl _) _).alloc (by simp) _).alloc (by simp; omega) _).alloc (by simp; omega) _
  have hsz : w1.heap.size = w.heap.size + 1 + 1 + 1 + 1 := by rw [hw1]; simp
  have hc0 : w1.cell? ⟨w.heap.size, 0, none⟩ = some (.slice none 0 0) := by rw [hw1]; simp [go_sem]
  have hc1 : w1.cell? ⟨w.heap.size + 1, 0, none⟩ = some (.int .i64 0) := by rw [hw1]; simp [go_sem]
  have hc2 : w1.cell? ⟨w.heap.size + 1 + 1, 0, none⟩ = some (.bool false) := by rw [hw1]; simp [go_sem]
  have hc3 : w1.cell? ⟨w.heap.size + 1 + 1 + 1, 0, none⟩ = some (.bool false) := by rw [hw1]; simp [go_sem]
  have hf0 : w1.frozen? ⟨w.heap.size, 0, none⟩ = false := by rw [hw1]; simp [go_sem]
  have hf1 : w1.frozen? ⟨w.heap.size + 1, 0, none⟩ = false := by rw [hw1]; simp [go_sem]
  have hf2 : w1.frozen? ⟨w.heap.size + 1 + 1, 0, none⟩ = false := by rw [hw1]; simp [go_sem]
  have hf3 : w1.frozen? ⟨w.heap.size + 1 + 1 + 1, 0, none⟩ = false := by rw [hw1]; simp [go_sem]
  have hrep := slicesRepeat a len cap zs cnt N hN hb hl hcnt w1 ((hI.below hb1).more (by omega))
  rw [hw1] at hrep
  have HR := hide hrep
  have HW := hide hw1
  clear hrep hN
  have hmf : ∀ (fn : Fn) (first cap : Array Value) (w : World), (Instr.makeFunc fn first cap).run Try.prog w = .ok (.func fn first cap) w := fun _ _ _ _ => rfl
  have hnil := fun (w : World) (a : Option Addr) (n c : Nat) => Lib.run_eql_slice_nil (P := Try.prog) w 22 3 a n c 0 0 Try.underlying22
  clear hw1
  go_enter_defers Try.func24, Try.ntmps24
  go_wp2_with fail
  refine HR.out.mono ?_
  rw [← HW.out]
  rintro e w2 ⟨g, rfl, own2, hb2⟩
  have d0 : w2.cell? ⟨w.heap.size, 0, none⟩ = some (.slice none 0 0) := ((bcell hb2).1 _ _ (by omega)).trans hc0
  have d1 : w2.cell? ⟨w.heap.size + 1, 0, none⟩ = some (.int .i64 0) := ((bcell hb2).1 _ _ (by omega)).trans hc1
  have d2 : w2.cell? ⟨w.heap.size + 1 + 1, 0, none⟩ = some (.bool false) := ((bcell hb2).1 _ _ (by omega)).trans hc2
  have d3 : w2.cell? ⟨w.heap.size + 1 + 1 + 1, 0, none⟩ = some (.bool false) := ((bcell hb2).1 _ _ (by omega)).trans hc3
  have k0 : w2.frozen? ⟨w.heap.size, 0, none⟩ = false := ((bcell hb2).2 _ _ (by omega)).trans hf0
  have k1 : w2.frozen? ⟨w.heap.size + 1, 0, none⟩ = false := ((bcell hb2).2 _ _ (by omega)).trans hf1
  have k2 : w2.frozen? ⟨w.heap.size + 1 + 1, 0, none⟩ = false := ((bcell hb2).2 _ _ (by omega)).trans hf2
  have k3 : w2.frozen? ⟨w.heap.size + 1 + 1 + 1, 0, none⟩ = false := ((bcell hb2).2 _ _ (by omega)).trans hf3
  clear hc0 hc1 hc2 hc3 hf0 hf1 hf2 hf3
  have HO := hide own2
  clear own2
  go_wp2
  obtain ⟨W, hW⟩ : ∃ W, W = ((((w2.setCell ⟨w.heap.size, 0, none⟩ (.slice (some ⟨g, 0, none⟩) N N)).setCell ⟨w.heap.size, 0, none⟩ (.slice (some ⟨g, 0, none⟩) N N)).setCell ⟨w.heap.size + 1, 0, none⟩ (.int .i64 N)).setCell ⟨w.heap.size + 1 + 1, 0, none⟩ (.bool false)).setCell ⟨w.heap.size + 1 + 1 + 1, 0, none⟩ (.bool false) := ⟨_, rfl⟩
  rw [← hW]
  obtain ⟨e0, e1, e2, e3, hb3⟩ := set4 w.heap.size _ _ _ _ _ _ _ _ (w2.setCell ⟨w.heap.size, 0, none⟩ (.slice (some ⟨g, 0, none⟩) N N)) (World.cell?_setCell_same _ _ _ d0) ((cso (by show _ ≠ _; simp)).trans d1) ((cso (by show _ ≠ _; simp; omega)).trans d2) ((cso (by show _ ≠ _; simp; omega)).trans d3) W hW
  have own3 : W.ownsRow w.heap.size 3 1 (.slice (some ⟨g, 0, none⟩) N N) N (ints (rep cnt zs)) := by
    rw [hW]
    refine own_base (base := w1.heap.size) ?_ (by omega)
    exact ownsRow_setCell_below (ownsRow_setCell_below (ownsRow_setCell_below (ownsRow_setCell_below (ownsRow_setCell_below HO.out (by show w.heap.size < _; omega) _) (by show w.heap.size < _; omega) _) (by show w.heap.size + 1 < _; omega) _) (by show w.heap.size + 1 + 1 < _; omega) _) (by show w.heap.size + 1 + 1 + 1 < _; omega) _
  have hb4 : Below w.heap.size w W := ((hb1.trans (hb2.mono (by omega))).setCell (p := ⟨w.heap.size, 0, none⟩) (Nat.le_refl _) _).trans hb3
  have HO3 := hide own3
  clear hW own3 hb3
  refine leaves_cons (f := 34) (args := #[.pointer (some ⟨w.heap.size, 0, none⟩), .pointer (some ⟨w.heap.size + 1, 0, none⟩), .pointer (some ⟨w.heap.size + 1 + 1, 0, none⟩), .pointer (some ⟨w.heap.size + 1 + 1 + 1, 0, none⟩)]) (by simp) (by simp [go_sem]) ?_
  refine (repCatch_idle _ _ _ _ W).mono ?_
  rintro e u' w'' ⟨rfl, rfl, hw''⟩
  obtain rfl := hw''.symm
  simp [Leaves, settle, results, Try.results24, go_sem, e0, e1, e2, e3]
  exact ⟨HO3.out, hb4⟩
end Go.Proofs.Ytiihcdoemgmjbaa
