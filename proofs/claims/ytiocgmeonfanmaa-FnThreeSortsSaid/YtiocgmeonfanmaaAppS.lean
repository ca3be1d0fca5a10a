/-
  slices.AppendSeq and slices.Collect of ints, over every iterator that stops where it is told to.
-/
import Derived.Maps.AppendAt
import Derived.WalkSpells
import Derived.WalkLawsBesides
import Derived.Outline
import Derived.Deep.DeepMust
import Derived.Test.YtiocgmeonfanmaaItS
namespace Go.Proofs.Ytiocgmeonfanmaa
open Go.RowKit Go.Shelf
set_option linter.unusedVariables false
set_option linter.unusedSimpArgs false
attribute [local go_sem] Oper.semAt_some

set_option maxRecDepth 100000 in
set_option maxHeartbeats 2000000 in
theorem appendSeq_in (F : Fence) (n : Nat) (hf : F.fn 43) (hro : F.round = none) (hn : 1 ≤ n) (gf : Nat) (lb : Array Value) (hF : F.fn gf) (eg : ∀ args w, (callFunc gf args).run Try.prog w = .ok (.enter gf args) w)
    (n₀ N : Nat) (zs : List Int) (Sp : List Int → Prop) (w : World) (hseq : SeqStopsK F (n - 1) Try.prog gf lb (fun x : Int => #[Value.int .i64 x]) (Below n₀) (fun ys => ys = zs) Sp N w)
    (A : Option Addr) (k c : Nat) (xs : List Int) (hown : w.ownsRow n₀ 3 1 (.slice A k c) k (ints xs)) (hn₀ : n₀ ≤ w.heap.size) (hb : (k + N) * 8 ≤ 140737488355328) :
    CallsIn F n Try.prog 43 #[.slice A k c, .func (.func gf) #[] lb] w fun e W' => ∃ A' c', e = .returned (.slice A' (k + zs.length) c') ∧ W'.ownsRow n₀ 3 1 (.slice A' (k + zs.length) c') (k + zs.length) (ints (xs ++ zs)) ∧
      (A'.isNone = (A.isNone && decide (zs = []))) ∧ Below n₀ w W' := by
  obtain ⟨i0, hi, hz0, hz1, hz2⟩ := info_parts infoInt
  refine callsIn_of_wp_marks Try.func43 rfl hf ?_ hro
  simp only [Try.ntmps43, List.size_toArray, List.length_cons, List.length_nil, Nat.reduceAdd, Nat.reduceSub, Array.replicate_succ, Array.replicate_zero, List.push_toArray, List.append_toArray, List.nil_append, List.cons_append]
  gi_wp2
  have bO := Boxed.new w 23 (.slice A k c)
  have hB0 : Below n₀ w (w.alloc (.cells #[.slice A k c] 23)) := (Below.refl _ w).alloc hn₀ _
  refine wpIn_rangeFunc_ownG hro hn (gf := gf) (lb := lb) rfl hF eg hseq belowK_t (belowK_b (by simp; omega)) ((Below.refl _ w).alloc (Nat.le_refl _) _) (fun _ => rfl)
    (fun pre W => (∃ v, Boxed W w.heap.size 23 v ∧ W.ownsRow n₀ 3 1 v (k + pre.length) (ints (xs ++ pre)) ∧ (∃ A' c', v = .slice A' (k + pre.length) c' ∧ (A'.isNone = (A.isNone && decide (pre = []))))) ∧ Below n₀ w W)
    (fun _ _ _ => False)
    (OwnFrom.and (Own.from (holdsRow_own n₀ w.heap.size 23 3 1 (fun pre => k + pre.length) (fun pre => ints (xs ++ pre)) (fun pre v => ∃ A' c', v = .slice A' (k + pre.length) c' ∧ (A'.isNone = (A.isNone && decide (pre = []))))) _) (ownFrom_below hn₀ (by simp; omega)))
    (fun _ _ _ _ _ hs _ _ => hs)
    ⟨⟨_, bO, by simpa using hown.alloc _, A, c, rfl, by simp⟩, hB0⟩
    (fun x => { tmps := #[.slice A k c, .func (.func gf) #[] lb, .pointer (some ⟨w.heap.size, 0, none⟩), undef, .slice none 0 0, .int .i64 x, .func (.func gf) #[] lb, .int .i64 x, undef, undef, undef, undef, undef], defers := [] }) ?assign ?body ?done ?stop
  case assign =>
    intro l x W K hK
    gi_wp2
    exact hK
  case body =>
    rintro l pre x W ⟨⟨v, hv, hrow, A', c', rfl, hnil⟩, hB⟩ hlt
    have hc := hv.cell
    have HN := hide hnil
    clear hnil
    gi_wp2_with (gi_at_builtin; go_must (refine wpListIn_append_own _ rfl _ _ 23 rfl n₀ 3 i0 (.int .i64 0) 1 8 Try.underlying23 hi hz0 hz1 hz2 rfl (by decide) _ _ _ rfl (hrow.alloc _) ⟨W.heap.size, 0, none⟩ 1 1 [.int .i64 x] rfl rfl (cell_one_new _ _ _) (by simp [Value.oneCell']) (by unfold maxLen; omega) (by omega) (by have := hB.size; simp; omega) ?_); intro v' w2 hown' hgrow _; obtain ⟨g', cap', rfl⟩ := ownsRow_succ hown'; obtain ⟨hv1, hv2, hr2, hk2, hb2⟩ := hv.appended (by decide) hrow (by have := hB.size; omega) hn₀ hown' hgrow; have hc1 := hv1.cell; have hf1 := hv1.frozen)
    exact ⟨hk2.from _, hb2, ⟨_, hv2, by simpa [ints, Nat.add_assoc] using hr2, some ⟨g', 0, none⟩, cap', by simp [Nat.add_assoc], by simp⟩, hB.trans hb2⟩
  case done =>
    rintro D ys W hD rfl ⟨⟨v, hv, hrow, A', c', rfl, hnil⟩, hB⟩ hK
    have hc := hv.cell
    have HN := hide hnil
    clear hnil
    gi_wp2
    refine ⟨by simp, .inl ⟨_, _, rfl, run_takeDeferred hK, ?_⟩⟩
    exact ⟨_, results_tmp rfl _ _ _, A', c', rfl, ownsRow_putObj hrow _ hK rfl, HN.out, hB.trans (belowK_b (w := w) hn₀ W D _ _ (by simp at hD; omega) hK rfl rfl)⟩
  case stop =>
    rintro D c pre W _ _ h _
    exact h.elim

set_option maxHeartbeats 1000000 in
theorem collect_in (F : Fence) (n : Nat) (hf : F.fn 36) (hg : F.fn 43) (hro : F.round = none) (hn : 2 ≤ n) (gf : Nat) (lb : Array Value) (hF : F.fn gf) (eg : ∀ args w, (callFunc gf args).run Try.prog w = .ok (.enter gf args) w)
    (n₀ N : Nat) (zs : List Int) (Sp : List Int → Prop) (w : World) (hseq : SeqStopsK F (n - 1 - 1) Try.prog gf lb (fun x : Int => #[Value.int .i64 x]) (Below n₀) (fun ys => ys = zs) Sp N w)
    (hn₀ : n₀ ≤ w.heap.size) (hb : N * 8 ≤ 140737488355328) :
    CallsIn F n Try.prog 36 #[.func (.func gf) #[] lb] w fun e W' => ∃ A' c', e = .returned (.slice A' zs.length c') ∧ W'.ownsRow n₀ 3 1 (.slice A' zs.length c') zs.length (ints zs) ∧
      (A'.isNone = decide (zs = [])) ∧ Below n₀ w W' := by
  have hn1 : 1 ≤ n := by omega
  have hco := appendSeq_in F (n - 1) hg hro (by omega) gf lb hF eg n₀ N zs Sp w hseq none 0 0 [] (by simpa using World.ownsRow_nil _ _ _ _) hn₀ (by omega)
  simp only [Nat.zero_add, Option.isNone_none, Bool.true_and, List.nil_append] at hco
  have HC := hide hco
  clear hco hseq
  refine callsIn_of_wp Try.func36 rfl hf ?_ hro
  simp only [Try.ntmps36, List.size_toArray, List.length_cons, List.length_nil, Nat.reduceAdd, Nat.reduceSub, Array.replicate_succ, Array.replicate_zero, List.push_toArray, List.append_toArray, List.nil_append, List.cons_append]
  gi_wp2_with (gi_at_call 43; refine (CallsIn.mono (unhide HC) ?_); rintro e w1 ⟨A', c', rfl, ho, hnl, hbl⟩; have HO := hide ho; have HL := hide hnl; clear ho hnl)
  go_ret
  exact ⟨A', c', rfl, HO.out, HL.out, hbl⟩

end Go.Proofs.Ytiocgmeonfanmaa
