/-
  slices.Repeat of elements without a size; impl.RepeatUnits.
-/
import Derived.Test.YtiihcdoemgmjbaaRepI
namespace Go.Proofs.Ytiihcdoemgmjbaa
open Go.RowKit
set_option linter.unusedVariables false
set_option linter.unusedSimpArgs false

theorem infoUnit : (Try.prog.info? 49).map (fun i => (i.size, i.bytes)) = some (0, 0) := by kernel_rfl
theorem infoUnitZ : ((Try.prog.info? 49).bind (·.zero)).map (·.cells) = some #[] := by kernel_rfl
theorem run_makeUnits (N : Nat) (hN : N ≤ 9223372036854775807) (w : World) : (Instr.makeSlice 47 (.int .i64 (N : Int)) (.int .i64 (N : Int))).run Try.prog w = .ok (.slice (some ⟨w.heap.size, 0, none⟩) N N) (w.alloc (.cells #[] 49)) := by
  have h1 := infoUnit
  have h2 := infoUnitZ
  cases hi : Try.prog.info? 49 with
  | none => rw [hi] at h1; cases h1
  | some i =>
    rw [hi] at h1 h2
    simp at h1
    cases hz : i.zero with
    | none => simp [hz] at h2
    | some z =>
      have h := run_make (P := Try.prog) w 47 49 i z Try.underlying47 hi hz .i64 .i64 (N : Int) (N : Int) (by omega) (Int.le_refl _) (by rw [h1.2]; omega) (by omega)
      rw [h1.1] at h
      simpa [madeCells, Array.range_zero'] using h
section
variable {P : Program} {w : World}
theorem run_copy_units (dT sT ty elem : TypeId) (hu : P.underlying dT = some (.slice elem)) (hsz : (P.info? elem).map (·.size) = some 0) (dp sp : Option Addr) (dLen dCap sLen sCap : Nat) :
    (Builtin.copy_ #[dT, sT] ty #[.slice dp dLen dCap, .slice sp sLen sCap]).run P w = .ok (goInt (Nat.min sLen dLen)) w := by
  cases hi : P.info? elem with
  | none => rw [hi] at hsz; cases hsz
  | some i =>
    rw [hi] at hsz
    simp at hsz
    cases dp <;> cases sp <;> simp [Builtin.copy_, run_underlying hu, sizeOf, typeInfo, hi, hsz, Builtin.lenOf, Builtin.firstCells, loadCells, loadCellsFrom, storeCells]
theorem wpList_copy_units {ops : Array Oper} {rest : List Oper} {o : Oper} {a : Act} {Q : Exit → Act → World → Prop} (hgd : o.guard = none) (d s : Operand) (dT sT : TypeId)
    (ho : o.op = .call { callee := .builtin .copy, args := #[d, s], argTypes := #[dT, sT] }) (elem : TypeId) (hu : P.underlying dT = some (.slice elem)) (hsz : (P.info? elem).map (·.size) = some 0)
    (dp sp : Option Addr) (dLen dCap sLen sCap : Nat) (hd : a.eval d = .slice dp dLen dCap) (hs : a.eval s = .slice sp sLen sCap) (n : Nat) (hn : n = Nat.min sLen dLen)
    (h : wpList P ops Q rest (a.put o.dst (.int .i64 (n : Int))) w) : wpList P ops Q (o :: rest) a w := by
  refine wpList_plain hgd fun K hK => ?_
  have hrun := run_copy_units (P := P) (w := w) dT sT o.type elem hu hsz dp sp dLen dCap sLen sCap
  unfold Oper.wp execOp
  simp only [ho, resolve, invoke, builtin, Sem.run_bind, Sem.run_pure, Result.andThen_ok, List.map_toArray, List.map_cons, List.map_nil, hs, hd, hrun]
  rw [← hn]
  exact hK _ _ h
theorem step_copy_units {ops : Array Oper} {o : Oper} {a : Act} {K : Act → World → Prop} {Q : Exit → Act → World → Prop} {E : Prop} (hgd : o.guard = none) (d s : Operand) (dT sT : TypeId)
    (ho : o.op = .call { callee := .builtin .copy, args := #[d, s], argTypes := #[dT, sT] }) (elem : TypeId) (hu : P.underlying dT = some (.slice elem)) (hsz : (P.info? elem).map (·.size) = some 0)
    (dp sp : Option Addr) (dLen dCap sLen sCap : Nat) (hd : a.eval d = .slice dp dLen dCap) (hs : a.eval s = .slice sp sLen sCap) (n : Nat) (hn : n = Nat.min sLen dLen)
    (h : K (a.put o.dst (.int .i64 (n : Int))) w) : if Region.wanted o (yielded ops a.tmps) = true then Oper.wp P o a w K Q else E := by
  have hw : Region.wanted o (yielded ops a.tmps) = true := by simp [Region.wanted, hgd]
  rw [if_pos hw]
  have hrun := run_copy_units (P := P) (w := w) dT sT o.type elem hu hsz dp sp dLen dCap sLen sCap
  unfold Oper.wp
  simp [execOp, ho, resolve, invoke, builtin, hd, hs, hrun, Result.andThen]
  rw [hn] at h
  exact h
end

set_option maxHeartbeats 1000000 in
theorem repeatNegU (a : Option Addr) (len cap : Nat) (cnt : Int) (hc : cnt < 0) (w : World) :
    Calls Try.prog 37 #[.slice a len cap, .int .i64 cnt] w fun e w' => (∃ u pv, e = .panicked [{ v := .iface u pv, recovered := false }]) ∧ w' = w := by
  go_enter Try.func37, Try.ntmps37
  go_wp2
  exact ⟨rfl, ⟨_, _, rfl⟩, rfl⟩

set_option maxHeartbeats 1000000 in
theorem repeatOverU (a : Option Addr) (len cap cnt : Nat) (hl : len ≤ 9223372036854775807) (hcnt : cnt ≤ 9223372036854775807) (hN : 9223372036854775807 < len * cnt) (w : World) :
    Calls Try.prog 37 #[.slice a len cap, .int .i64 cnt] w fun e w' => (∃ u pv, e = .panicked [{ v := .iface u pv, recovered := false }]) ∧ w' = w := by
  have hmul := Try.bits_Mul len cnt (by omega) (by omega)
  obtain ⟨hi, hhi⟩ : ∃ hi, len * cnt / 18446744073709551616 = hi := ⟨_, rfl⟩
  obtain ⟨lo, hlo⟩ : ∃ lo, len * cnt % 18446744073709551616 = lo := ⟨_, rfl⟩
  have hor : 0 < hi ∨ (hi = 0 ∧ 9223372036854775807 < lo) := by omega
  rw [hhi, hlo] at hmul
  have HM := hide hmul
  have hcnn : ¬ ((cnt : Int) < 0) := by omega
  clear hmul hhi hlo hN
  rcases hor with h | ⟨rfl, h⟩
  · have h' : (0 : Int) < (hi : Int) := by omega
    go_enter Try.func37, Try.ntmps37
    go_wp2_with fail
    refine (HM.out _).mono ?_
    rintro e w' ⟨rfl, hw⟩
    obtain rfl := hw.symm
    go_wp2
    exact ⟨rfl, ⟨_, _, rfl⟩, rfl⟩
  · have h' : (9223372036854775807 : Int) < (lo : Int) := by omega
    go_enter Try.func37, Try.ntmps37
    go_wp2_with fail
    refine (HM.out _).mono ?_
    rintro e w' ⟨rfl, hw⟩
    obtain rfl := hw.symm
    go_wp2
    exact ⟨rfl, ⟨_, _, rfl⟩, rfl⟩

set_option maxRecDepth 100000 in
set_option maxHeartbeats 1000000 in
theorem slicesRepeatU (a : Option Addr) (len cap : Nat) (cnt N : Nat) (hN : N = cnt * len) (hb : N ≤ 9223372036854775807) (hl : len ≤ 9223372036854775807) (hcnt : cnt ≤ 9223372036854775807) (w : World) :
    Calls Try.prog 37 #[.slice a len cap, .int .i64 cnt] w fun e w' => ∃ A, e = .returned (.slice A N N) ∧ Below w.heap.size w w' := by
  have hmul := Try.bits_Mul len cnt (by omega) (by omega)
  have hpr : len * cnt = N := by rw [hN, Nat.mul_comm]
  rw [hpr] at hmul
  rw [Nat.div_eq_of_lt (by omega), Nat.mod_eq_of_lt (by omega)] at hmul
  have HM := hide hmul
  have hlN : N = 0 ∨ 1 ≤ len := by
    rcases Nat.eq_zero_or_pos len with h | h
    · left; rw [hN, h]; simp
    · exact .inr h
  clear hmul hpr hN
  have hmk := run_makeUnits N hb
  have hsz0 : (Try.prog.info? 49).map (·.size) = some 0 := by kernel_rfl
  have hcnn : ¬ ((cnt : Int) < 0) := by omega
  have hgt : ¬ ((9223372036854775807 : Int) < (N : Int)) := by omega
  have hgtd : decide ((9223372036854775807 : Int) < (N : Int)) = false := by simp; omega
  have hgtn : ¬ (9223372036854775807 < N) := by omega
  obtain ⟨c0, hc0⟩ : ∃ c0, c0 = Nat.min len N := ⟨_, rfl⟩
  have hc0N : c0 ≤ N := by rw [hc0]; exact Nat.min_le_right _ _
  have hc0p : 0 < c0 ∨ N = 0 := by
    rcases hlN with h | h
    · exact .inr h
    · rcases Nat.eq_zero_or_pos N with h2 | h2
      · exact .inr h2
      · left; rw [hc0]; exact Nat.lt_min.2 ⟨h, h2⟩
  have HC0 := hide hc0
  clear hc0
  go_enter Try.func37, Try.ntmps37
  go_wp2_with fail
  refine (HM.out _).mono ?_
  rintro e w' ⟨rfl, hw⟩
  obtain rfl := hw.symm
  clear hw
  go_wp2_with (with_reducible refine wpList_copy_units rfl (.tmp 31) (.tmp 32) 47 47 rfl 49 Try.underlying47 hsz0 _ _ _ _ _ _ rfl rfl c0 HC0.out ?_)
  go_loopw [8] (fun v wr => ∃ m : Nat, v = .int .i64 (m : Int) ∧ m ≤ N ∧ Hid (0 < m ∨ N = 0) ∧ Below w.heap.size w wr) (fun v _ => N - (intOf v).toNat)
  case atStart => exact ⟨c0, rfl, hc0N, hc0p, (Below.refl _ w).alloc (Nat.le_refl _) _⟩
  case round =>
    obtain ⟨m, rfl, hmN, hpos, hB⟩ := hrel
    by_cases hlt : m < N
    · obtain ⟨k, hk⟩ : ∃ k, k = Nat.min m (N - m) := ⟨_, rfl⟩
      have hkm : k ≤ N - m := by rw [hk]; exact Nat.min_le_right _ _
      have hkp : 0 < k := by
        rcases hpos.out with h | h
        · rw [hk]; exact Nat.lt_min.2 ⟨h, by omega⟩
        · omega
      have HK := hide hk
      have hlti : (m : Int) < (N : Int) := by omega
      have hle : (m : Int) ≤ (N : Int) := by omega
      have hne : ¬ (N = m) := by omega
      clear hk
      go_wp2_with fail
      go_region_law (refine step_copy_units rfl (.tmp 41) (.tmp 44) 47 47 rfl 49 Try.underlying47 hsz0 (some ⟨w.heap.size, 0, none⟩) (some ⟨w.heap.size, 0, none⟩) (N - m) (N - m) m N (by simp [Act.eval, Act.put]) (by simp [Act.eval, Act.put]) k HK.out ?_)
      have hwk : IntKind.i64.wrap ((m : Int) + (k : Int)) = ((m + k : Nat) : Int) := by rw [IntWalk.i64_in _ (by omega)]; omega
      simp only [Act.put, hwk, List.getElem_toArray, List.getElem_cons_succ, List.getElem_cons_zero, List.setIfInBounds_toArray, List.set_cons_zero, List.set_cons_succ]
      go_wp2
      go_roundw
      case rel => exact ⟨m + k, by first | rfl | simp, by omega, hide (.inl (by omega)), hB.drew⟩
      case measure => first | (simp [intOf]; omega) | (simp [intOf, hwk]; omega)
    · obtain rfl : m = N := by omega
      go_wp2
      go_ret
      exact ⟨_, rfl, hB⟩

theorem set2u (b : Nat) (x0 x1 y0 y1 : Value) (w : World) (h0 : w.cell? ⟨b, 0, none⟩ = some x0) (h1 : w.cell? ⟨b + 1, 0, none⟩ = some x1) (W : World)
    (hW : W = (w.setCell ⟨b, 0, none⟩ y0).setCell ⟨b + 1, 0, none⟩ y1) :
    W.cell? ⟨b, 0, none⟩ = some y0 ∧ W.cell? ⟨b + 1, 0, none⟩ = some y1 ∧ Below b w W := by
  subst hW
  refine ⟨?_, ?_, ((Below.refl _ w).setCell (p := ⟨b, 0, none⟩) (Nat.le_refl _) _).setCell (p := ⟨b + 1, 0, none⟩) (Nat.le_succ _) _⟩
  · rw [cso (by show _ ≠ _; simp)]
    exact World.cell?_setCell_same _ _ _ h0
  · exact World.cell?_setCell_same _ _ _ (u := x1) (by rw [cso (by show _ ≠ _; simp)]; exact h1)
theorem repUCatch_panicking (b : Nat) (x0 x1 : Value) (u : TypeId) (pv : Value) (older : List PanicEntry) (w : World) (h0 : w.cell? ⟨b, 0, none⟩ = some x0) (h1 : w.cell? ⟨b + 1, 0, none⟩ = some x1) (f0 : w.frozen? ⟨b, 0, none⟩ = false) (f1 : w.frozen? ⟨b + 1, 0, none⟩ = false) :
    CallsD Try.prog 36 #[.pointer (some ⟨b, 0, none⟩), .pointer (some ⟨b + 1, 0, none⟩)] (.panicking ({ v := .iface u pv, recovered := false } :: older)) w fun e u' w' =>
      e = .returned (.tuple #[]) ∧ u' = .panicking ({ v := .iface u pv, recovered := true } :: older) ∧ w' = (w.setCell ⟨b, 0, none⟩ (.int .i64 0)).setCell ⟨b + 1, 0, none⟩ (.bool true) := by
  refine callsD_of_wpS Try.func36 rfl fun c₀ cs hu => ?_
  apply wpS_seq
  apply wpS_region
  simp [wpOpsS, go_sem, recoverD, hu, Try.ntmps36, Exit.thenS]
  refine wpS_cond (t := true) (by simp [Act.eval, Array.replicate]) ?_
  simp only [if_true]
  apply wpS_region
  simp [wpOpsS, go_sem, h0, h1, f0, f1, bodyPostS, results, Try.results36]
theorem repUCatch_idle (p0 p1 : Addr) (w : World) :
    CallsD Try.prog 36 #[.pointer (some p0), .pointer (some p1)] .returning w fun e u' w' => e = .returned (.tuple #[]) ∧ u' = .returning ∧ w' = w := by
  refine callsD_of_wpS Try.func36 rfl fun c₀ cs hu => ?_
  apply wpS_seq
  apply wpS_region
  simp [wpOpsS, go_sem, recoverD, hu, Try.ntmps36, Exit.thenS]
  refine wpS_cond (t := false) (by simp [Act.eval, Array.replicate]) ?_
  simp only [Bool.false_eq_true, if_false]
  refine wpS_of_wp (wp_skip ?_)
  cases c₀
  simp_all [bodyPostS, results, Try.results36]

set_option maxRecDepth 100000 in
set_option maxHeartbeats 2000000 in
theorem implRepeatUnits_panic (n : Nat) (cnt : Int) (hn : n ≤ 9223372036854775807) (hp : ∀ a cap w, Calls Try.prog 37 #[.slice a n cap, .int .i64 cnt] w fun e w' => (∃ u pv, e = .panicked [{ v := .iface u pv, recovered := false }]) ∧ w' = w) (w : World) :
    Calls Try.prog 25 #[.int .i64 n, .int .i64 cnt] w fun e w' => e = .returned (.tuple #[.int .i64 0, .bool true]) ∧ Below w.heap.size w w' := by
  have HP := hide hp
  clear hp
  have hmk := run_makeUnits n hn
  have hmx : ¬ ((n : Int) < 0) := by omega
  have hmf : ∀ (fn : Fn) (first cap : Array Value) (w : World), (Instr.makeFunc fn first cap).run Try.prog w = .ok (.func fn first cap) w := fun _ _ _ _ => rfl
  go_enter_defers Try.func25, Try.ntmps25
  go_wp2_with fail
  refine (HP.out _ _ _).mono ?_
  rintro e w1 ⟨⟨u, pv, rfl⟩, hw1⟩
  have hb1 : Below w.heap.size w w1 := by rw [hw1]; exact (((Below.refl _ w).alloc (Nat.le_refl _) _).alloc (by simp) _).alloc (by simp; omega) _
  have hc0 : w1.cell? ⟨w.heap.size, 0, none⟩ = some (.int .i64 0) := by rw [hw1]; simp [go_sem]
  have hc1 : w1.cell? ⟨w.heap.size + 1, 0, none⟩ = some (.bool false) := by rw [hw1]; simp [go_sem]
  have hf0 : w1.frozen? ⟨w.heap.size, 0, none⟩ = false := by rw [hw1]; simp [go_sem]
  have hf1 : w1.frozen? ⟨w.heap.size + 1, 0, none⟩ = false := by rw [hw1]; simp [go_sem]
  clear hw1
  go_wp2
  refine leaves_cons (f := 36) (args := #[.pointer (some ⟨w.heap.size, 0, none⟩), .pointer (some ⟨w.heap.size + 1, 0, none⟩)]) (by simp) (by simp [go_sem]) ?_
  refine (repUCatch_panicking w.heap.size _ _ u pv [] w1 hc0 hc1 hf0 hf1).mono ?_
  rintro e u' w'' ⟨rfl, rfl, hw''⟩
  obtain ⟨e0, e1, hb2⟩ := set2u w.heap.size _ _ _ _ w1 hc0 hc1 w'' hw''
  clear hw''
  simp [Leaves, settle, results, Try.results25, go_sem, e0, e1]
  exact hb1.trans hb2

set_option maxRecDepth 100000 in
set_option maxHeartbeats 2000000 in
theorem implRepeatUnits (n cnt N : Nat) (hN : N = cnt * n) (hb : N ≤ 9223372036854775807) (hn : n ≤ 9223372036854775807) (hcnt : cnt ≤ 9223372036854775807) (w : World) :
    Calls Try.prog 25 #[.int .i64 n, .int .i64 cnt] w fun e w' => e = .returned (.tuple #[.int .i64 N, .bool false]) ∧ Below w.heap.size w w' := by
  have HR := hide (fun a cap w => slicesRepeatU a n cap cnt N hN hb hn hcnt w)
  clear hN
  have hmk := run_makeUnits n hn
  have hmx : ¬ ((n : Int) < 0) := by omega
  have hmf : ∀ (fn : Fn) (first cap : Array Value) (w : World), (Instr.makeFunc fn first cap).run Try.prog w = .ok (.func fn first cap) w := fun _ _ _ _ => rfl
  obtain ⟨w1, hw1⟩ : ∃ w1, w1 = ((w.alloc (.cells #[.int .i64 0] 3)).alloc (.cells #[.bool false] 4)).alloc (.cells #[] 49) := ⟨_, rfl⟩
  have hb1 : Below w.heap.size w w1 := by rw [hw1]; exact (((Below.refl _ w).alloc (Nat.le_refl _) _).alloc (by simp) _).alloc (by simp; omega) _
  have hsz : w1.heap.size = w.heap.size + 1 + 1 + 1 := by rw [hw1]; simp
  have hc0 : w1.cell? ⟨w.heap.size, 0, none⟩ = some (.int .i64 0) := by rw [hw1]; simp [go_sem]
  have hc1 : w1.cell? ⟨w.heap.size + 1, 0, none⟩ = some (.bool false) := by rw [hw1]; simp [go_sem]
  have hf0 : w1.frozen? ⟨w.heap.size, 0, none⟩ = false := by rw [hw1]; simp [go_sem]
  have hf1 : w1.frozen? ⟨w.heap.size + 1, 0, none⟩ = false := by rw [hw1]; simp [go_sem]
  have HW := hide hw1
  clear hw1
  go_enter_defers Try.func25, Try.ntmps25
  go_wp2_with fail
  rw [← HW.out]
  refine (HR.out _ _ w1).mono ?_
  rintro e w2 ⟨g, rfl, hb2⟩
  have d0 := ((bcell hb2).1 w.heap.size 0 (by omega)).trans hc0
  have d1 := ((bcell hb2).1 (w.heap.size + 1) 0 (by omega)).trans hc1
  have k0 := ((bcell hb2).2 w.heap.size 0 (by omega)).trans hf0
  have k1 := ((bcell hb2).2 (w.heap.size + 1) 0 (by omega)).trans hf1
  clear hc0 hc1 hf0 hf1
  go_wp2
  obtain ⟨W, hW⟩ : ∃ W, W = (w2.setCell ⟨w.heap.size, 0, none⟩ (.int .i64 N)).setCell ⟨w.heap.size + 1, 0, none⟩ (.bool false) := ⟨_, rfl⟩
  rw [← hW]
  obtain ⟨e0, e1, hb3⟩ := set2u w.heap.size _ _ _ _ w2 d0 d1 W hW
  clear hW
  refine leaves_cons (f := 36) (args := #[.pointer (some ⟨w.heap.size, 0, none⟩), .pointer (some ⟨w.heap.size + 1, 0, none⟩)]) (by simp) (by simp [go_sem]) ?_
  refine (repUCatch_idle _ _ W).mono ?_
  rintro e u' w'' ⟨rfl, rfl, hw''⟩
  obtain rfl := hw''.symm
  simp [Leaves, settle, results, Try.results25, go_sem, e0, e1]
  exact (hb1.trans (hb2.mono (by omega))).trans hb3
end Go.Proofs.Ytiihcdoemgmjbaa
