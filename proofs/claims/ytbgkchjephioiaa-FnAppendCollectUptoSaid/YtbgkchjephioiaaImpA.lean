/-
  impl.AppendSeq: the elements of a slice, then the values.
-/
import Derived.Maps.AppendAt
import Derived.WalkSpells
import Derived.WalkLawsBesides
import Derived.Outline
import Derived.Deep.DeepMust
import Derived.Laws.MakeOwn
import Derived.Laws.CopyOwn
import Derived.Test.YtbgkchjephioiaaApp
import Derived.Test.YtbgkchjephioiaaAppR
namespace Go.Proofs.Ytbgkchjephioiaa
open Go.RowKit Go.Shelf
set_option linter.unusedVariables false
set_option linter.unusedSimpArgs false

theorem sizeInt : (Try.prog.info? 3).map (·.size) = some 1 := by kernel_rfl
theorem own_of_block {w : World} {g n cap base : Nat} {e : TypeId} {cs cur : List Value} (hb : base ≤ g) (hg : w.heap[g]? = some (.cells cur.toArray e (0, 0))) (hn : n ≤ cap) (hm : cap ≤ maxLen) (hc : cur.length = cap) (ht : cur.take n = cs) (hl : cs.length = n) : w.ownsRow base e 1 (.slice (some ⟨g, 0, none⟩) n cap) n cs :=
  ⟨by simp [hl], .inr ⟨g, cap, cur.toArray, rfl, hb, hg, hn, hm, by simp [hc], by simp [ht]⟩⟩
theorem take_splice0 (cur cs : List Value) {n : Nat} (h : cs.length = n) : (splice cur 0 cs).take n = cs := by subst h; simp [splice]
/-- sequence(l) and slices.AppendSeq, one behind the other: what comes is appended -/
theorem seqAppend (a' : Option Addr) (m c' : Nat) (ys : List Int) (n₀ : Nat) (w : World) (hy : Rd w n₀ 1 a' m (ints ys)) (hn₀ : n₀ ≤ w.heap.size) (A : Option Addr) (n c : Nat) (xs : List Int) (hown : w.ownsRow n₀ 3 1 (.slice A n c) n (ints xs)) (hb : (n + m) * 8 ≤ 140737488351232) :
    Calls Try.prog 42 #[.slice A n c, .func (.func 47) #[] #[.pointer (some ⟨w.heap.size, 0, none⟩)]] (w.alloc (.cells #[.slice a' m c'] 22)) fun e W' => ∃ A' c', e = .returned (.slice A' (n + m) c') ∧ W'.ownsRow n₀ 3 1 (.slice A' (n + m) c') (n + m) (ints (xs ++ ys)) ∧
      (A'.isNone = (A.isNone && decide (ys = []))) ∧ Below n₀ w W' := by
  have hl : ys.length = m := by have := hy.1; simpa using this
  have hB0 : Below n₀ w (w.alloc (.cells #[.slice a' m c'] 22)) := (Below.refl _ w).alloc hn₀ _
  have hst := sequence_stops Fence.wide 1 trivial rfl (Nat.le_refl _) w.heap.size n₀ m c' a' ys (by omega) (w.alloc (.cells #[.slice a' m c'] 22)) (by simp) (by simp; omega) (Boxed.new w 22 (.slice a' m c')).cell (hy.below hB0)
  refine (callsIn_wide.1 (appendSeq_in Fence.wide 2 trivial rfl (by omega) _ _ trivial (enters_of Try.func47 (by kernel_rfl) rfl) n₀ m ys _ _ hst A n c xs (hown.alloc _) (by simp; omega) (by omega))).mono ?_
  rintro e w1 ⟨A', c2, rfl, ho, hnl, hbl⟩
  rw [hl] at ho ⊢
  exact ⟨A', c2, rfl, ho, hnl, hB0.trans hbl⟩

set_option maxRecDepth 100000 in
set_option maxHeartbeats 1000000 in
theorem implAppendSeq_posNeg (a : Option Addr) (n c : Nat) (xs : List Int) (spare : Int) (isNil : Bool) (a' : Option Addr) (m c' : Nat) (ys : List Int) (hb : n + m ≤ 4194304) (w : World) (hx : Rd w w.heap.size 1 a n (ints xs)) (hy : Rd w w.heap.size 1 a' m (ints ys)) (h0 : 0 < n) (h1 : ¬ 0 < spare) (h2 : ¬ 1000 < spare) :
    Calls Try.prog 28 #[.slice a n c, .int .i64 spare, .bool isNil, .slice a' m c'] w fun e W' => ∃ A' c', e = .returned (.tuple #[.slice A' (n + m) c', .bool false]) ∧ W'.ownsRow w.heap.size 3 1 (.slice A' (n + m) c') (n + m) (ints (xs ++ ys)) ∧ Below w.heap.size w W' := by
  have hnil := fun (w : World) (a : Option Addr) (n c : Nat) => Lib.run_eql_slice_nil (P := Try.prog) w 22 3 a n c 0 0 Try.underlying22
  have hxl : xs.length = n := by have := hx.1; simpa using this
  obtain ⟨i0, hi, hz0, hz1, hz2⟩ := info_parts infoInt
  have hmk : ∀ W : World, (Instr.makeSlice 22 (.int .i64 (n : Int)) (.int .i64 (n : Int))).run Try.prog W = .ok (.slice (some ⟨W.heap.size, 0, none⟩) n n) (W.alloc (.cells (Array.replicate n (Value.int .i64 0)) 3)) := fun W => by
    have h := run_make (P := Try.prog) W 22 3 i0 (.int .i64 0) Try.underlying22 hi hz0 .i64 .i64 (n : Int) (n : Int) (by omega) (by omega) (by rw [hz2]; omega) (by omega)
    have e1 : ((n : Int)).toNat = n := by omega
    have e2 : madeCells #[Value.int .i64 0] n = Array.replicate n (Value.int .i64 0) := by apply Array.toList_inj.1; rw [toList_madeCells_one]; simp
    rw [e1, hz1] at h
    simpa [Value.cells, e2] using h
  have hg0 : (w.alloc (.cells (Array.replicate n (Value.int .i64 0)) 3)).heap[w.heap.size]? = some (.cells (List.replicate n (Value.int .i64 0)).toArray 3 (0, 0)) := by rw [List.toArray_replicate]; exact heap_alloc_new w _
  have HX := hide hxl
  have HG := hide hg0
  clear hxl hg0
  go_enter Try.func28, Try.ntmps28
  go_wp2_with ((with_reducible refine wpList_copy_splice rfl (.tmp 27) (.tmp 28) 22 22 rfl 3 Try.underlying22 sizeInt _ _ _ _ _ _ rfl rfl w.heap.size 0 (List.replicate n (Value.int .i64 0)) 3 HG.out (ints xs) ?hn ?hpos ?hfit (ints_one _) w.heap.size w ((Below.refl _ w).alloc (Nat.le_refl _) _) (Nat.le_refl _) ?_); rotate_right; intro w1 hw1 hb1)
  case hn => have h := HX.out; first | exact h | omega | (simp [ints]; omega)
  case hpos =>
    intro hp
    obtain ⟨b, off, e, _⟩ := hx.2 (by have h := HX.out; first | omega | (simp [ints] at hp; omega))
    first | exact ⟨rfl, _, e, ((hx.alloc (Nat.le_refl _) _).src _ e)⟩ | exact ⟨_, e, by simpa using ((hx.alloc (Nat.le_refl _) _).src _ e)⟩
  case hfit => have h := HX.out; first | omega | (simp [ints]; omega)
  have hs1 := hb1.size
  have own1 : w1.ownsRow w.heap.size 3 1 (.slice (some ⟨w.heap.size, 0, none⟩) n n) n (ints xs) := own_of_block (Nat.le_refl _) hw1.out (by omega) (by unfold maxLen; omega) (by rw [length_splice _ _ _ (by have := HX.out; simp [ints]; omega)]; simp) (take_splice0 _ _ (by have := HX.out; simp [ints, this])) (by have := HX.out; simp [ints, this])
  go_wp2_with fail
  refine (callsIn_wide.1 (sequence_in Fence.wide 3 trivial rfl _ _ _ _)).mono ?_
  rintro e w2 ⟨rfl, rfl⟩
  go_wp2_with fail
  refine (seqAppend a' m c' ys w.heap.size w1 (hy.below hb1) hs1 _ n _ xs own1 (by omega)).mono ?_
  rintro e w3 ⟨A3, c3, rfl, own3, hn3, hb3⟩
  have hb03 := hb1.trans hb3
  have hs3 := hb03.size
  simp only [Option.isNone_some, Bool.false_and] at hn3
  go_wp2_with (at_builtin; go_must (refine wpList_append_rd _ rfl _ _ 22 rfl w.heap.size 3 i0 (.int .i64 0) 1 8 Try.underlying22 hi hz0 hz1 hz2 rfl (by decide) (.slice none 0 0) 0 [] rfl (World.ownsRow_nil _ _ _ _) w3.heap.size A3 (n + m) c3 _ rfl (Rd.of_own own3) (ints_one _) (by unfold maxLen; omega) (by omega) hs3 ?_); intro v4 w4 own4 hg4 _; simp only [Nat.zero_add, List.nil_append] at own4; obtain ⟨A4, c4, rfl⟩ := own_slice own4)
  go_ret2
  exact ⟨A4, c4, rfl, by first | exact own4 | simpa [ints] using own4, hb03.grown hg4 hs3 (by simp [Value.ownBlock])⟩

set_option maxRecDepth 100000 in
set_option maxHeartbeats 1000000 in
theorem implAppendSeq_posMid (a : Option Addr) (n c : Nat) (xs : List Int) (q : Nat) (isNil : Bool) (a' : Option Addr) (m c' : Nat) (ys : List Int) (hb : n + m ≤ 4194304) (w : World) (hx : Rd w w.heap.size 1 a n (ints xs)) (hy : Rd w w.heap.size 1 a' m (ints ys)) (h0 : 0 < n) (h1 : (0 : Int) < (q : Int)) (h2 : ¬ (1000 : Int) < (q : Int)) :
    Calls Try.prog 28 #[.slice a n c, .int .i64 (q : Int), .bool isNil, .slice a' m c'] w fun e W' => ∃ A' c', e = .returned (.tuple #[.slice A' (n + m) c', .bool false]) ∧ W'.ownsRow w.heap.size 3 1 (.slice A' (n + m) c') (n + m) (ints (xs ++ ys)) ∧ Below w.heap.size w W' := by
  have hnil := fun (w : World) (a : Option Addr) (n c : Nat) => Lib.run_eql_slice_nil (P := Try.prog) w 22 3 a n c 0 0 Try.underlying22
  have hxl : xs.length = n := by have := hx.1; simpa using this
  obtain ⟨i0, hi, hz0, hz1, hz2⟩ := info_parts infoInt
  have hmk : ∀ W : World, (Instr.makeSlice 22 (.int .i64 (n : Int)) (.int .i64 ((n : Int) + (q : Int)))).run Try.prog W = .ok (.slice (some ⟨W.heap.size, 0, none⟩) n (n + q)) (W.alloc (.cells (Array.replicate (n + q) (Value.int .i64 0)) 3)) := fun W => by
    have h := run_make (P := Try.prog) W 22 3 i0 (.int .i64 0) Try.underlying22 hi hz0 .i64 .i64 (n : Int) ((n : Int) + (q : Int)) (by omega) (by omega) (by rw [hz2]; omega) (by omega)
    have e1 : (((n : Int) + (q : Int))).toNat = (n + q) := by omega
    have e2 : madeCells #[Value.int .i64 0] (n + q) = Array.replicate (n + q) (Value.int .i64 0) := by apply Array.toList_inj.1; rw [toList_madeCells_one]; simp
    rw [e1, hz1] at h
    simpa [Value.cells, e2] using h
  have hg0 : (w.alloc (.cells (Array.replicate (n + q) (Value.int .i64 0)) 3)).heap[w.heap.size]? = some (.cells (List.replicate (n + q) (Value.int .i64 0)).toArray 3 (0, 0)) := by rw [List.toArray_replicate]; exact heap_alloc_new w _
  have HX := hide hxl
  have HG := hide hg0
  clear hxl hg0
  go_enter Try.func28, Try.ntmps28
  go_wp2_with ((with_reducible refine wpList_copy_splice rfl (.tmp 27) (.tmp 28) 22 22 rfl 3 Try.underlying22 sizeInt _ _ _ _ _ _ rfl rfl w.heap.size 0 (List.replicate (n + q) (Value.int .i64 0)) 3 HG.out (ints xs) ?hn ?hpos ?hfit (ints_one _) w.heap.size w ((Below.refl _ w).alloc (Nat.le_refl _) _) (Nat.le_refl _) ?_); rotate_right; intro w1 hw1 hb1)
  case hn => have h := HX.out; first | exact h | omega | (simp [ints]; omega)
  case hpos =>
    intro hp
    obtain ⟨b, off, e, _⟩ := hx.2 (by have h := HX.out; first | omega | (simp [ints] at hp; omega))
    first | exact ⟨rfl, _, e, ((hx.alloc (Nat.le_refl _) _).src _ e)⟩ | exact ⟨_, e, by simpa using ((hx.alloc (Nat.le_refl _) _).src _ e)⟩
  case hfit => have h := HX.out; first | omega | (simp [ints]; omega)
  have hs1 := hb1.size
  have own1 : w1.ownsRow w.heap.size 3 1 (.slice (some ⟨w.heap.size, 0, none⟩) n (n + q)) n (ints xs) := own_of_block (Nat.le_refl _) hw1.out (by omega) (by unfold maxLen; omega) (by rw [length_splice _ _ _ (by have := HX.out; simp [ints]; omega)]; simp) (take_splice0 _ _ (by have := HX.out; simp [ints, this])) (by have := HX.out; simp [ints, this])
  go_wp2_with fail
  refine (callsIn_wide.1 (sequence_in Fence.wide 3 trivial rfl _ _ _ _)).mono ?_
  rintro e w2 ⟨rfl, rfl⟩
  go_wp2_with fail
  refine (seqAppend a' m c' ys w.heap.size w1 (hy.below hb1) hs1 _ n _ xs own1 (by omega)).mono ?_
  rintro e w3 ⟨A3, c3, rfl, own3, hn3, hb3⟩
  have hb03 := hb1.trans hb3
  have hs3 := hb03.size
  simp only [Option.isNone_some, Bool.false_and] at hn3
  go_wp2_with (at_builtin; go_must (refine wpList_append_rd _ rfl _ _ 22 rfl w.heap.size 3 i0 (.int .i64 0) 1 8 Try.underlying22 hi hz0 hz1 hz2 rfl (by decide) (.slice none 0 0) 0 [] rfl (World.ownsRow_nil _ _ _ _) w3.heap.size A3 (n + m) c3 _ rfl (Rd.of_own own3) (ints_one _) (by unfold maxLen; omega) (by omega) hs3 ?_); intro v4 w4 own4 hg4 _; simp only [Nat.zero_add, List.nil_append] at own4; obtain ⟨A4, c4, rfl⟩ := own_slice own4)
  go_ret2
  exact ⟨A4, c4, rfl, by first | exact own4 | simpa [ints] using own4, hb03.grown hg4 hs3 (by simp [Value.ownBlock])⟩

set_option maxRecDepth 100000 in
set_option maxHeartbeats 1000000 in
theorem implAppendSeq_posBig (a : Option Addr) (n c : Nat) (xs : List Int) (spare : Int) (isNil : Bool) (a' : Option Addr) (m c' : Nat) (ys : List Int) (hb : n + m ≤ 4194304) (w : World) (hx : Rd w w.heap.size 1 a n (ints xs)) (hy : Rd w w.heap.size 1 a' m (ints ys)) (h0 : 0 < n) (h1 : 1000 < spare) :
    Calls Try.prog 28 #[.slice a n c, .int .i64 spare, .bool isNil, .slice a' m c'] w fun e W' => ∃ A' c', e = .returned (.tuple #[.slice A' (n + m) c', .bool false]) ∧ W'.ownsRow w.heap.size 3 1 (.slice A' (n + m) c') (n + m) (ints (xs ++ ys)) ∧ Below w.heap.size w W' := by
  have hnil := fun (w : World) (a : Option Addr) (n c : Nat) => Lib.run_eql_slice_nil (P := Try.prog) w 22 3 a n c 0 0 Try.underlying22
  have hxl : xs.length = n := by have := hx.1; simpa using this
  obtain ⟨i0, hi, hz0, hz1, hz2⟩ := info_parts infoInt
  have hmk : ∀ W : World, (Instr.makeSlice 22 (.int .i64 (n : Int)) (.int .i64 ((n : Int) + 1000))).run Try.prog W = .ok (.slice (some ⟨W.heap.size, 0, none⟩) n (n + 1000)) (W.alloc (.cells (Array.replicate (n + 1000) (Value.int .i64 0)) 3)) := fun W => by
    have h := run_make (P := Try.prog) W 22 3 i0 (.int .i64 0) Try.underlying22 hi hz0 .i64 .i64 (n : Int) ((n : Int) + 1000) (by omega) (by omega) (by rw [hz2]; omega) (by omega)
    have e1 : (((n : Int) + 1000)).toNat = (n + 1000) := by omega
    have e2 : madeCells #[Value.int .i64 0] (n + 1000) = Array.replicate (n + 1000) (Value.int .i64 0) := by apply Array.toList_inj.1; rw [toList_madeCells_one]; simp
    rw [e1, hz1] at h
    simpa [Value.cells, e2] using h
  have hg0 : (w.alloc (.cells (Array.replicate (n + 1000) (Value.int .i64 0)) 3)).heap[w.heap.size]? = some (.cells (List.replicate (n + 1000) (Value.int .i64 0)).toArray 3 (0, 0)) := by rw [List.toArray_replicate]; exact heap_alloc_new w _
  have HX := hide hxl
  have HG := hide hg0
  clear hxl hg0
  go_enter Try.func28, Try.ntmps28
  go_wp2_with ((with_reducible refine wpList_copy_splice rfl (.tmp 27) (.tmp 28) 22 22 rfl 3 Try.underlying22 sizeInt _ _ _ _ _ _ rfl rfl w.heap.size 0 (List.replicate (n + 1000) (Value.int .i64 0)) 3 HG.out (ints xs) ?hn ?hpos ?hfit (ints_one _) w.heap.size w ((Below.refl _ w).alloc (Nat.le_refl _) _) (Nat.le_refl _) ?_); rotate_right; intro w1 hw1 hb1)
  case hn => have h := HX.out; first | exact h | omega | (simp [ints]; omega)
  case hpos =>
    intro hp
    obtain ⟨b, off, e, _⟩ := hx.2 (by have h := HX.out; first | omega | (simp [ints] at hp; omega))
    first | exact ⟨rfl, _, e, ((hx.alloc (Nat.le_refl _) _).src _ e)⟩ | exact ⟨_, e, by simpa using ((hx.alloc (Nat.le_refl _) _).src _ e)⟩
  case hfit => have h := HX.out; first | omega | (simp [ints]; omega)
  have hs1 := hb1.size
  have own1 : w1.ownsRow w.heap.size 3 1 (.slice (some ⟨w.heap.size, 0, none⟩) n (n + 1000)) n (ints xs) := own_of_block (Nat.le_refl _) hw1.out (by omega) (by unfold maxLen; omega) (by rw [length_splice _ _ _ (by have := HX.out; simp [ints]; omega)]; simp) (take_splice0 _ _ (by have := HX.out; simp [ints, this])) (by have := HX.out; simp [ints, this])
  go_wp2_with fail
  refine (callsIn_wide.1 (sequence_in Fence.wide 3 trivial rfl _ _ _ _)).mono ?_
  rintro e w2 ⟨rfl, rfl⟩
  go_wp2_with fail
  refine (seqAppend a' m c' ys w.heap.size w1 (hy.below hb1) hs1 _ n _ xs own1 (by omega)).mono ?_
  rintro e w3 ⟨A3, c3, rfl, own3, hn3, hb3⟩
  have hb03 := hb1.trans hb3
  have hs3 := hb03.size
  simp only [Option.isNone_some, Bool.false_and] at hn3
  go_wp2_with (at_builtin; go_must (refine wpList_append_rd _ rfl _ _ 22 rfl w.heap.size 3 i0 (.int .i64 0) 1 8 Try.underlying22 hi hz0 hz1 hz2 rfl (by decide) (.slice none 0 0) 0 [] rfl (World.ownsRow_nil _ _ _ _) w3.heap.size A3 (n + m) c3 _ rfl (Rd.of_own own3) (ints_one _) (by unfold maxLen; omega) (by omega) hs3 ?_); intro v4 w4 own4 hg4 _; simp only [Nat.zero_add, List.nil_append] at own4; obtain ⟨A4, c4, rfl⟩ := own_slice own4)
  go_ret2
  exact ⟨A4, c4, rfl, by first | exact own4 | simpa [ints] using own4, hb03.grown hg4 hs3 (by simp [Value.ownBlock])⟩

set_option maxRecDepth 100000 in
set_option maxHeartbeats 1000000 in
theorem implAppendSeq_zeroNeg (a : Option Addr) (n c : Nat) (xs : List Int) (spare : Int)  (a' : Option Addr) (m c' : Nat) (ys : List Int) (hb : n + m ≤ 4194304) (w : World) (hx : Rd w w.heap.size 1 a n (ints xs)) (hy : Rd w w.heap.size 1 a' m (ints ys)) (h0 : ¬ 0 < n) (h1 : ¬ 0 < spare) (h2 : ¬ 1000 < spare) :
    Calls Try.prog 28 #[.slice a n c, .int .i64 spare, .bool false, .slice a' m c'] w fun e W' => ∃ A' c', e = .returned (.tuple #[.slice A' (n + m) c', .bool false]) ∧ W'.ownsRow w.heap.size 3 1 (.slice A' (n + m) c') (n + m) (ints (xs ++ ys)) ∧ Below w.heap.size w W' := by
  have hnil := fun (w : World) (a : Option Addr) (n c : Nat) => Lib.run_eql_slice_nil (P := Try.prog) w 22 3 a n c 0 0 Try.underlying22
  have hxl : xs.length = n := by have := hx.1; simpa using this
  obtain ⟨i0, hi, hz0, hz1, hz2⟩ := info_parts infoInt
  have hmk : ∀ W : World, (Instr.makeSlice 22 (.int .i64 (n : Int)) (.int .i64 (n : Int))).run Try.prog W = .ok (.slice (some ⟨W.heap.size, 0, none⟩) n n) (W.alloc (.cells (Array.replicate n (Value.int .i64 0)) 3)) := fun W => by
    have h := run_make (P := Try.prog) W 22 3 i0 (.int .i64 0) Try.underlying22 hi hz0 .i64 .i64 (n : Int) (n : Int) (by omega) (by omega) (by rw [hz2]; omega) (by omega)
    have e1 : ((n : Int)).toNat = n := by omega
    have e2 : madeCells #[Value.int .i64 0] n = Array.replicate n (Value.int .i64 0) := by apply Array.toList_inj.1; rw [toList_madeCells_one]; simp
    rw [e1, hz1] at h
    simpa [Value.cells, e2] using h
  have hg0 : (w.alloc (.cells (Array.replicate n (Value.int .i64 0)) 3)).heap[w.heap.size]? = some (.cells (List.replicate n (Value.int .i64 0)).toArray 3 (0, 0)) := by rw [List.toArray_replicate]; exact heap_alloc_new w _
  have HX := hide hxl
  have HG := hide hg0
  clear hxl hg0
  go_enter Try.func28, Try.ntmps28
  go_wp2_with ((with_reducible refine wpList_copy_splice rfl (.tmp 27) (.tmp 28) 22 22 rfl 3 Try.underlying22 sizeInt _ _ _ _ _ _ rfl rfl w.heap.size 0 (List.replicate n (Value.int .i64 0)) 3 HG.out (ints xs) ?hn ?hpos ?hfit (ints_one _) w.heap.size w ((Below.refl _ w).alloc (Nat.le_refl _) _) (Nat.le_refl _) ?_); rotate_right; intro w1 hw1 hb1)
  case hn => have h := HX.out; first | exact h | omega | (simp [ints]; omega)
  case hpos =>
    intro hp
    obtain ⟨b, off, e, _⟩ := hx.2 (by have h := HX.out; first | omega | (simp [ints] at hp; omega))
    first | exact ⟨rfl, _, e, ((hx.alloc (Nat.le_refl _) _).src _ e)⟩ | exact ⟨_, e, by simpa using ((hx.alloc (Nat.le_refl _) _).src _ e)⟩
  case hfit => have h := HX.out; first | omega | (simp [ints]; omega)
  have hs1 := hb1.size
  have own1 : w1.ownsRow w.heap.size 3 1 (.slice (some ⟨w.heap.size, 0, none⟩) n n) n (ints xs) := own_of_block (Nat.le_refl _) hw1.out (by omega) (by unfold maxLen; omega) (by rw [length_splice _ _ _ (by have := HX.out; simp [ints]; omega)]; simp) (take_splice0 _ _ (by have := HX.out; simp [ints, this])) (by have := HX.out; simp [ints, this])
  go_wp2_with fail
  refine (callsIn_wide.1 (sequence_in Fence.wide 3 trivial rfl _ _ _ _)).mono ?_
  rintro e w2 ⟨rfl, rfl⟩
  go_wp2_with fail
  refine (seqAppend a' m c' ys w.heap.size w1 (hy.below hb1) hs1 _ n _ xs own1 (by omega)).mono ?_
  rintro e w3 ⟨A3, c3, rfl, own3, hn3, hb3⟩
  have hb03 := hb1.trans hb3
  have hs3 := hb03.size
  simp only [Option.isNone_some, Bool.false_and] at hn3
  go_wp2_with (at_builtin; go_must (refine wpList_append_rd _ rfl _ _ 22 rfl w.heap.size 3 i0 (.int .i64 0) 1 8 Try.underlying22 hi hz0 hz1 hz2 rfl (by decide) (.slice none 0 0) 0 [] rfl (World.ownsRow_nil _ _ _ _) w3.heap.size A3 (n + m) c3 _ rfl (Rd.of_own own3) (ints_one _) (by unfold maxLen; omega) (by omega) hs3 ?_); intro v4 w4 own4 hg4 _; simp only [Nat.zero_add, List.nil_append] at own4; obtain ⟨A4, c4, rfl⟩ := own_slice own4)
  go_ret2
  exact ⟨A4, c4, rfl, by first | exact own4 | simpa [ints] using own4, hb03.grown hg4 hs3 (by simp [Value.ownBlock])⟩

set_option maxRecDepth 100000 in
set_option maxHeartbeats 1000000 in
theorem implAppendSeq_zeroMid (a : Option Addr) (n c : Nat) (xs : List Int) (q : Nat)  (a' : Option Addr) (m c' : Nat) (ys : List Int) (hb : n + m ≤ 4194304) (w : World) (hx : Rd w w.heap.size 1 a n (ints xs)) (hy : Rd w w.heap.size 1 a' m (ints ys)) (h0 : ¬ 0 < n) (h1 : (0 : Int) < (q : Int)) (h2 : ¬ (1000 : Int) < (q : Int)) :
    Calls Try.prog 28 #[.slice a n c, .int .i64 (q : Int), .bool false, .slice a' m c'] w fun e W' => ∃ A' c', e = .returned (.tuple #[.slice A' (n + m) c', .bool false]) ∧ W'.ownsRow w.heap.size 3 1 (.slice A' (n + m) c') (n + m) (ints (xs ++ ys)) ∧ Below w.heap.size w W' := by
  have hnil := fun (w : World) (a : Option Addr) (n c : Nat) => Lib.run_eql_slice_nil (P := Try.prog) w 22 3 a n c 0 0 Try.underlying22
  have hxl : xs.length = n := by have := hx.1; simpa using this
  obtain ⟨i0, hi, hz0, hz1, hz2⟩ := info_parts infoInt
  have hmk : ∀ W : World, (Instr.makeSlice 22 (.int .i64 (n : Int)) (.int .i64 ((n : Int) + (q : Int)))).run Try.prog W = .ok (.slice (some ⟨W.heap.size, 0, none⟩) n (n + q)) (W.alloc (.cells (Array.replicate (n + q) (Value.int .i64 0)) 3)) := fun W => by
    have h := run_make (P := Try.prog) W 22 3 i0 (.int .i64 0) Try.underlying22 hi hz0 .i64 .i64 (n : Int) ((n : Int) + (q : Int)) (by omega) (by omega) (by rw [hz2]; omega) (by omega)
    have e1 : (((n : Int) + (q : Int))).toNat = (n + q) := by omega
    have e2 : madeCells #[Value.int .i64 0] (n + q) = Array.replicate (n + q) (Value.int .i64 0) := by apply Array.toList_inj.1; rw [toList_madeCells_one]; simp
    rw [e1, hz1] at h
    simpa [Value.cells, e2] using h
  have hg0 : (w.alloc (.cells (Array.replicate (n + q) (Value.int .i64 0)) 3)).heap[w.heap.size]? = some (.cells (List.replicate (n + q) (Value.int .i64 0)).toArray 3 (0, 0)) := by rw [List.toArray_replicate]; exact heap_alloc_new w _
  have HX := hide hxl
  have HG := hide hg0
  clear hxl hg0
  go_enter Try.func28, Try.ntmps28
  go_wp2_with ((with_reducible refine wpList_copy_splice rfl (.tmp 27) (.tmp 28) 22 22 rfl 3 Try.underlying22 sizeInt _ _ _ _ _ _ rfl rfl w.heap.size 0 (List.replicate (n + q) (Value.int .i64 0)) 3 HG.out (ints xs) ?hn ?hpos ?hfit (ints_one _) w.heap.size w ((Below.refl _ w).alloc (Nat.le_refl _) _) (Nat.le_refl _) ?_); rotate_right; intro w1 hw1 hb1)
  case hn => have h := HX.out; first | exact h | omega | (simp [ints]; omega)
  case hpos =>
    intro hp
    obtain ⟨b, off, e, _⟩ := hx.2 (by have h := HX.out; first | omega | (simp [ints] at hp; omega))
    first | exact ⟨rfl, _, e, ((hx.alloc (Nat.le_refl _) _).src _ e)⟩ | exact ⟨_, e, by simpa using ((hx.alloc (Nat.le_refl _) _).src _ e)⟩
  case hfit => have h := HX.out; first | omega | (simp [ints]; omega)
  have hs1 := hb1.size
  have own1 : w1.ownsRow w.heap.size 3 1 (.slice (some ⟨w.heap.size, 0, none⟩) n (n + q)) n (ints xs) := own_of_block (Nat.le_refl _) hw1.out (by omega) (by unfold maxLen; omega) (by rw [length_splice _ _ _ (by have := HX.out; simp [ints]; omega)]; simp) (take_splice0 _ _ (by have := HX.out; simp [ints, this])) (by have := HX.out; simp [ints, this])
  go_wp2_with fail
  refine (callsIn_wide.1 (sequence_in Fence.wide 3 trivial rfl _ _ _ _)).mono ?_
  rintro e w2 ⟨rfl, rfl⟩
  go_wp2_with fail
  refine (seqAppend a' m c' ys w.heap.size w1 (hy.below hb1) hs1 _ n _ xs own1 (by omega)).mono ?_
  rintro e w3 ⟨A3, c3, rfl, own3, hn3, hb3⟩
  have hb03 := hb1.trans hb3
  have hs3 := hb03.size
  simp only [Option.isNone_some, Bool.false_and] at hn3
  go_wp2_with (at_builtin; go_must (refine wpList_append_rd _ rfl _ _ 22 rfl w.heap.size 3 i0 (.int .i64 0) 1 8 Try.underlying22 hi hz0 hz1 hz2 rfl (by decide) (.slice none 0 0) 0 [] rfl (World.ownsRow_nil _ _ _ _) w3.heap.size A3 (n + m) c3 _ rfl (Rd.of_own own3) (ints_one _) (by unfold maxLen; omega) (by omega) hs3 ?_); intro v4 w4 own4 hg4 _; simp only [Nat.zero_add, List.nil_append] at own4; obtain ⟨A4, c4, rfl⟩ := own_slice own4)
  go_ret2
  exact ⟨A4, c4, rfl, by first | exact own4 | simpa [ints] using own4, hb03.grown hg4 hs3 (by simp [Value.ownBlock])⟩

set_option maxRecDepth 100000 in
set_option maxHeartbeats 1000000 in
theorem implAppendSeq_zeroBig (a : Option Addr) (n c : Nat) (xs : List Int) (spare : Int)  (a' : Option Addr) (m c' : Nat) (ys : List Int) (hb : n + m ≤ 4194304) (w : World) (hx : Rd w w.heap.size 1 a n (ints xs)) (hy : Rd w w.heap.size 1 a' m (ints ys)) (h0 : ¬ 0 < n) (h1 : 1000 < spare) :
    Calls Try.prog 28 #[.slice a n c, .int .i64 spare, .bool false, .slice a' m c'] w fun e W' => ∃ A' c', e = .returned (.tuple #[.slice A' (n + m) c', .bool false]) ∧ W'.ownsRow w.heap.size 3 1 (.slice A' (n + m) c') (n + m) (ints (xs ++ ys)) ∧ Below w.heap.size w W' := by
  have hnil := fun (w : World) (a : Option Addr) (n c : Nat) => Lib.run_eql_slice_nil (P := Try.prog) w 22 3 a n c 0 0 Try.underlying22
  have hxl : xs.length = n := by have := hx.1; simpa using this
  obtain ⟨i0, hi, hz0, hz1, hz2⟩ := info_parts infoInt
  have hmk : ∀ W : World, (Instr.makeSlice 22 (.int .i64 (n : Int)) (.int .i64 ((n : Int) + 1000))).run Try.prog W = .ok (.slice (some ⟨W.heap.size, 0, none⟩) n (n + 1000)) (W.alloc (.cells (Array.replicate (n + 1000) (Value.int .i64 0)) 3)) := fun W => by
    have h := run_make (P := Try.prog) W 22 3 i0 (.int .i64 0) Try.underlying22 hi hz0 .i64 .i64 (n : Int) ((n : Int) + 1000) (by omega) (by omega) (by rw [hz2]; omega) (by omega)
    have e1 : (((n : Int) + 1000)).toNat = (n + 1000) := by omega
    have e2 : madeCells #[Value.int .i64 0] (n + 1000) = Array.replicate (n + 1000) (Value.int .i64 0) := by apply Array.toList_inj.1; rw [toList_madeCells_one]; simp
    rw [e1, hz1] at h
    simpa [Value.cells, e2] using h
  have hg0 : (w.alloc (.cells (Array.replicate (n + 1000) (Value.int .i64 0)) 3)).heap[w.heap.size]? = some (.cells (List.replicate (n + 1000) (Value.int .i64 0)).toArray 3 (0, 0)) := by rw [List.toArray_replicate]; exact heap_alloc_new w _
  have HX := hide hxl
  have HG := hide hg0
  clear hxl hg0
  go_enter Try.func28, Try.ntmps28
  go_wp2_with ((with_reducible refine wpList_copy_splice rfl (.tmp 27) (.tmp 28) 22 22 rfl 3 Try.underlying22 sizeInt _ _ _ _ _ _ rfl rfl w.heap.size 0 (List.replicate (n + 1000) (Value.int .i64 0)) 3 HG.out (ints xs) ?hn ?hpos ?hfit (ints_one _) w.heap.size w ((Below.refl _ w).alloc (Nat.le_refl _) _) (Nat.le_refl _) ?_); rotate_right; intro w1 hw1 hb1)
  case hn => have h := HX.out; first | exact h | omega | (simp [ints]; omega)
  case hpos =>
    intro hp
    obtain ⟨b, off, e, _⟩ := hx.2 (by have h := HX.out; first | omega | (simp [ints] at hp; omega))
    first | exact ⟨rfl, _, e, ((hx.alloc (Nat.le_refl _) _).src _ e)⟩ | exact ⟨_, e, by simpa using ((hx.alloc (Nat.le_refl _) _).src _ e)⟩
  case hfit => have h := HX.out; first | omega | (simp [ints]; omega)
  have hs1 := hb1.size
  have own1 : w1.ownsRow w.heap.size 3 1 (.slice (some ⟨w.heap.size, 0, none⟩) n (n + 1000)) n (ints xs) := own_of_block (Nat.le_refl _) hw1.out (by omega) (by unfold maxLen; omega) (by rw [length_splice _ _ _ (by have := HX.out; simp [ints]; omega)]; simp) (take_splice0 _ _ (by have := HX.out; simp [ints, this])) (by have := HX.out; simp [ints, this])
  go_wp2_with fail
  refine (callsIn_wide.1 (sequence_in Fence.wide 3 trivial rfl _ _ _ _)).mono ?_
  rintro e w2 ⟨rfl, rfl⟩
  go_wp2_with fail
  refine (seqAppend a' m c' ys w.heap.size w1 (hy.below hb1) hs1 _ n _ xs own1 (by omega)).mono ?_
  rintro e w3 ⟨A3, c3, rfl, own3, hn3, hb3⟩
  have hb03 := hb1.trans hb3
  have hs3 := hb03.size
  simp only [Option.isNone_some, Bool.false_and] at hn3
  go_wp2_with (at_builtin; go_must (refine wpList_append_rd _ rfl _ _ 22 rfl w.heap.size 3 i0 (.int .i64 0) 1 8 Try.underlying22 hi hz0 hz1 hz2 rfl (by decide) (.slice none 0 0) 0 [] rfl (World.ownsRow_nil _ _ _ _) w3.heap.size A3 (n + m) c3 _ rfl (Rd.of_own own3) (ints_one _) (by unfold maxLen; omega) (by omega) hs3 ?_); intro v4 w4 own4 hg4 _; simp only [Nat.zero_add, List.nil_append] at own4; obtain ⟨A4, c4, rfl⟩ := own_slice own4)
  go_ret2
  exact ⟨A4, c4, rfl, by first | exact own4 | simpa [ints] using own4, hb03.grown hg4 hs3 (by simp [Value.ownBlock])⟩

set_option maxRecDepth 100000 in
set_option maxHeartbeats 1000000 in
theorem implAppendSeq_nil (a : Option Addr) (n c : Nat) (spare : Int) (a' : Option Addr) (m c' : Nat) (ys : List Int) (hb : m ≤ 4194304) (w : World) (hy : Rd w w.heap.size 1 a' m (ints ys)) (h0 : ¬ 0 < n) :
    Calls Try.prog 28 #[.slice a n c, .int .i64 spare, .bool true, .slice a' m c'] w fun e W' => ∃ A' c', e = .returned (.tuple #[.slice A' m c', .bool (decide (ys = []))]) ∧ W'.ownsRow w.heap.size 3 1 (.slice A' m c') m (ints ys) ∧ Below w.heap.size w W' := by
  have hnil := fun (w : World) (a : Option Addr) (n c : Nat) => Lib.run_eql_slice_nil (P := Try.prog) w 22 3 a n c 0 0 Try.underlying22
  obtain ⟨i0, hi, hz0, hz1, hz2⟩ := info_parts infoInt
  have hse := seqAppend a' m c' ys w.heap.size w hy (Nat.le_refl _) none 0 0 [] (World.ownsRow_nil _ _ _ _) (by omega)
  simp only [Nat.zero_add, List.nil_append, Option.isNone_none, Bool.true_and] at hse
  have HS := hide hse
  clear hse
  go_enter Try.func28, Try.ntmps28
  go_wp2_with fail
  refine (callsIn_wide.1 (sequence_in Fence.wide 3 trivial rfl _ _ _ _)).mono ?_
  rintro e w2 ⟨rfl, rfl⟩
  go_wp2_with fail
  refine (unhide HS).mono ?_
  rintro e w3 ⟨A3, c3, rfl, own3, hn3, hb3⟩
  have hs3 := hb3.size
  have HN := hide hn3
  clear hn3
  go_wp2_with (at_builtin; go_must (refine wpList_append_rd _ rfl _ _ 22 rfl w.heap.size 3 i0 (.int .i64 0) 1 8 Try.underlying22 hi hz0 hz1 hz2 rfl (by decide) (.slice none 0 0) 0 [] rfl (World.ownsRow_nil _ _ _ _) w3.heap.size A3 m c3 _ rfl (Rd.of_own own3) (ints_one _) (by unfold maxLen; omega) (by omega) hs3 ?_); intro v4 w4 own4 hg4 _; simp only [Nat.zero_add, List.nil_append] at own4; obtain ⟨A4, c4, rfl⟩ := own_slice own4)
  go_ret2
  exact ⟨A4, c4, by rw [← HN.out]; rfl, by first | exact own4 | simpa [ints] using own4, hb3.grown hg4 hs3 (by simp [Value.ownBlock])⟩

set_option maxRecDepth 100000 in
/-- impl.AppendSeq, at every argument -/
theorem implAppendSeq (a : Option Addr) (n c : Nat) (xs : List Int) (spare : Int) (isNil : Bool) (a' : Option Addr) (m c' : Nat) (ys : List Int) (hb : n + m ≤ 4194304) (w : World) (hx : Rd w w.heap.size 1 a n (ints xs)) (hy : Rd w w.heap.size 1 a' m (ints ys)) :
    Calls Try.prog 28 #[.slice a n c, .int .i64 spare, .bool isNil, .slice a' m c'] w fun e W' => ∃ A' c', e = .returned (.tuple #[.slice A' (n + m) c', .bool (flagOf isNil (n + m))]) ∧ W'.ownsRow w.heap.size 3 1 (.slice A' (n + m) c') (n + m) (ints (xs ++ ys)) ∧ Below w.heap.size w W' := by
  unfold flagOf
  have hxl : xs.length = n := by have := hx.1; simpa using this
  have hyl : ys.length = m := by have := hy.1; simpa using this
  by_cases h0 : 0 < n
  · have hf : (isNil && decide (n + m = 0)) = false := by rw [decide_eq_false (by omega), Bool.and_false]
    rw [hf]
    by_cases h1 : 1000 < spare
    · exact implAppendSeq_posBig a n c xs spare isNil a' m c' ys hb w hx hy h0 h1
    · by_cases h2 : 0 < spare
      · obtain ⟨q, rfl⟩ : ∃ q : Nat, spare = q := ⟨spare.toNat, by omega⟩
        exact implAppendSeq_posMid a n c xs q isNil a' m c' ys hb w hx hy h0 h2 h1
      · exact implAppendSeq_posNeg a n c xs spare isNil a' m c' ys hb w hx hy h0 h2 h1
  · cases isNil with
    | false =>
      rw [Bool.false_and]
      by_cases h1 : 1000 < spare
      · exact implAppendSeq_zeroBig a n c xs spare a' m c' ys hb w hx hy h0 h1
      · by_cases h2 : 0 < spare
        · obtain ⟨q, rfl⟩ : ∃ q : Nat, spare = q := ⟨spare.toNat, by omega⟩
          exact implAppendSeq_zeroMid a n c xs q a' m c' ys hb w hx hy h0 h2 h1
        · exact implAppendSeq_zeroNeg a n c xs spare a' m c' ys hb w hx hy h0 h2 h1
    | true =>
      have hx0 : xs = [] := List.eq_nil_of_length_eq_zero (by omega)
      have hn0 : n = 0 := by omega
      have hbm : m ≤ 4194304 := by omega
      have hc := implAppendSeq_nil a n c spare a' m c' ys hbm w hy h0
      refine hc.mono ?_
      rintro e w1 ⟨A1, c1, rfl, own1, hb1⟩
      subst hn0
      subst hx0
      have hd : decide (ys = []) = decide (0 + m = 0) := by rw [← hyl]; cases ys <;> simp
      rw [hd]
      simp only [Nat.zero_add, List.nil_append, Bool.true_and] at *
      exact ⟨A1, c1, rfl, own1, hb1⟩
end Go.Proofs.Ytbgkchjephioiaa
