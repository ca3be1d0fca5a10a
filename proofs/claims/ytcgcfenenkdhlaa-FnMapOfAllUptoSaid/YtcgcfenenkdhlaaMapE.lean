/-
  impl.entries.
-/
import Derived.Test.YtcgcfenenkdhlaaMapA
namespace Go.Proofs.Ytcgcfenenkdhlaa
open Go.RowKit Go.Maps Go.Sort Go.Shelf
set_option linter.unusedVariables false
set_option linter.unusedSimpArgs false
attribute [local go_sem] Oper.semAt_some

set_option maxRecDepth 100000 in
set_option maxHeartbeats 2000000 in
theorem implEntries (b nn : Nat) (D0 : DW) (f : Int → Option Int) (hR : Reads D0 f) (hnn : Maps.size D0 * 16 ≤ 140737488351232) (w : World) (hown : w.ownsMap Try.prog 3 (plainElem Try.prog 3) b nn D0) :
    Calls Try.prog 46 #[.map (some b)] w fun e w' => ∃ A c ts, e = .returned (.slice A ts.length c) ∧ w'.ownsRow w.heap.size 35 2 (.slice A ts.length c) ts.length (pairs ts) ∧ Tab ts f ∧ ts.length ≤ nn ∧ Below w.heap.size w w' := by
  have hmf : ∀ (fn : Fn) (first cap : Array Value) (w : World), (Instr.makeFunc fn first cap).run Try.prog w = .ok (.func fn first cap) w := fun _ _ _ _ => rfl
  have hbd := hown.size_le
  have hbl := hown.lt
  obtain ⟨i0, hi, hz0, hz1, hz2⟩ := info_parts infoIE
  have HR := hide hR
  clear hR
  go_enter Try.func46, Try.ntmps46
  have bO := Boxed.new w 22 (.slice none 0 0)
  go_wp2_with (at_range; refine wpList_range_own _ rfl _ 47 rfl 3 3 (Maps.int_keyed Try.underlying3) Try.underlying47 _ b nn _ rfl (hown.alloc _) ?_; intro w0 hrg0 hg0 hs0)
  simp only [World.size_alloc] at hrg0 hg0 hs0
  go_frame
  rw [World.size_alloc]
  go_loopw [4, 5, 8, 9] (fun _ _ _ _ wr => ∃ (left : Lit → Bool) (cnt : Nat) (ps : List (Int × Int)), wr.ranges Try.prog 3 (plainElem Try.prog 3) b (w.heap.size + 1) nn D0 left cnt ∧ ps.length + cnt ≤ Maps.size D0 ∧ CollectedI D0 left (ps.map (·.1)) ∧ (∀ p ∈ ps, ValI D0 p) ∧ (∃ v, Boxed wr w.heap.size 22 v ∧ wr.ownsRow w.heap.size 35 2 v ps.length (pairs ps)) ∧ Below w.heap.size w wr)
    (fun _ _ _ _ wr => wr.rangeLeft b (w.heap.size + 1))
  case atStart =>
    exact ⟨_, _, [], hrg0, by simp, CollectedI.start D0, by simp, ⟨_, bO.kept hg0 (by simp), World.ownsRow_nil _ _ _ _⟩, ((Below.refl _ w).alloc (Nat.le_refl _) _).grown hg0 (by simp) (fun r e => by cases e)⟩
  case round =>
    obtain ⟨left, cnt, ps, hrg, hcs, hC, hV, ⟨v, hv, hrow⟩, hB⟩ := hrel
    obtain ⟨A', c', rfl⟩ := own_slice hrow
    have hc := hv.cell
    go_wp2_with (at_next; go_must (refine wpList_next_ranges _ rfl _ rfl 3 (Maps.int_keyed Try.underlying3) (plainElem Try.prog 3) (Value.int .i64) (Value.int .i64) (fun key kl hk => by obtain ⟨x, hx, _⟩ := Maps.keyOf_i64 Try.underlying3 hk; exact ⟨x, hx⟩) (fun v y hv => by obtain ⟨c, rfl, _⟩ := plainElem_int_inv Try.underlying3 hv; exact ⟨c, rfl⟩) b (w.heap.size + 1) nn _ _ _ rfl hrg ?_ ?_))
    · intro hc0 hl0
      have hall : AllF f ps := HR.out.allF hC.1 (fun x => by rw [hC.2 x, hl0]; simp [kl]) hV
      have HALL := hide hall
      clear hall
      go_wp2_with (go_at_call 37; refine (sliceOwn 63 lt1 swo_lt1 lessAt1 (enters_of Try.func63 (by kernel_rfl) rfl) w.heap.size w.heap.size A' ps.length c' ps wr hrow (by omega) hc (by have := hB.size; have := hv.lt; omega) (fun e => hv.not_row (by decide) hrow e.symm)).mono ?_; rintro e w3 ⟨rfl, ts, hpm, hso, ho3, hg3⟩; have hv3 := hv.kept hg3 (hv.not_row (by decide) hrow); have hc3 := hv3.cell)
      have htab : Tab ts f := Tab.of_sorted HALL.out hpm (by have := sorted_rise1 (d := ts.toArray) (by simpa using hso); simpa using this)
      go_ret
      exact ⟨A', c', ts, by rw [hpm.length_eq]; rfl, by rw [hpm.length_eq]; exact ho3, htab, by rw [hpm.length_eq]; omega, below_grown_own hB hB.size (Nat.le_refl _) hrow hg3⟩
    · intro x c kl' yd yp w2 cnt2 hkey hlk hv2 hat hrg2 hlt hg2 hs2 hen
      obtain ⟨x', ex, rfl, _⟩ := Maps.keyOf_i64 Try.underlying3 hkey
      obtain rfl : x = x' := by simpa using ex
      obtain ⟨c2, ec, ez, _⟩ := plainElem_int_inv Try.underlying3 hv2
      obtain rfl : c = c2 := by simpa using ec
      obtain rfl : yd = .lit (.int .i64 c) := (Prod.mk.inj ez).1
      have hC2 : CollectedI D0 (fun z => left z && !z.sameKey (.int .i64 x)) ((ps ++ [(x, c)]).map (·.1)) := by simpa using hC.step hlk hat
      have hV2 : ∀ p ∈ ps ++ [(x, c)], ValI D0 p := fun p hp => (List.mem_append.1 hp).elim (hV p) (fun e => by simp at e; subst e; exact hat)
      have hnr : (Value.slice A' ps.length c').ownBlock ≠ some (w.heap.size + 1) := by
        obtain ⟨o, ho, hw⟩ := hrg.iter_walk
        rcases hrow.2 with ⟨e, _⟩ | ⟨g, cap, cur, e, _, hgb, _⟩
        · rw [e]; simp [Value.ownBlock]
        · rw [e]; intro h; simp [Value.ownBlock] at h; subst h; rw [ho] at hgb; cases hgb; simp [Obj.isWalk] at hw
      have hvb := hv.kept hg2 (by simp)
      have hrb := hrow.kept hg2 (.inr hnr)
      have hBb : Below w.heap.size w w2 := hB.grown hg2 hB.size (fun r e => by cases e; omega)
      have hcb := hvb.cell
      have hszb := hBb.size
      clear hs2 hv hrow hc
      go_wp2_with (at_builtin; go_must (refine wpList_append_own _ rfl _ _ 22 rfl w.heap.size 35 i0 (.agg #[.int .i64 0, .int .i64 0]) 2 16 Try.underlying22 hi hz0 hz1 hz2 rfl (by decide) _ _ _ rfl (hrb.alloc _) ⟨w2.heap.size, 0, none⟩ 1 1 [.int .i64 x, .int .i64 c] rfl rfl (cell_two_new _ _ _ _) (by simp [Value.oneCell']) (by unfold maxLen; omega) (by omega) (by simp; omega) ?_); intro v' w3 hown' hgrow _; obtain ⟨g', cap', rfl⟩ := ownsRow_succ hown'; obtain ⟨hv1, hvc, hrc, hkc, hbc⟩ := hvb.appended (by decide) hrb hszb (Nat.le_refl _) hown' hgrow; have hc1 := hv1.cell; have hf1 := hv1.frozen)
      have hrg3 := hrg2.of_walks hkc.walks
      go_roundw
      case rel => exact ⟨_, cnt2, ps ++ [(x, c)], hrg3, by simp; omega, hC2, hV2, ⟨_, hvc, by rw [pairs_append, pairs_one]; simpa using hrc⟩, hBb.trans hbc⟩
      case measure => rw [hrg3.left_eq, hrg.left_eq]; exact hlt
end Go.Proofs.Ytcgcfenenkdhlaa
