/-
  slices.AppendSeq and slices.Collect of flts, over every iterator that stops where it is told to.
-/
import Derived.Maps.AppendAt
import Derived.WalkSpells
import Derived.WalkLawsBesides
import Derived.Outline
import Derived.Deep.DeepMust
import Derived.Test.YthefajbahbmohaaItFl
namespace Go.Proofs.Ythefajbahbmohaa
open Go.RowKit Go.Shelf
set_option linter.unusedVariables false
set_option linter.unusedSimpArgs false
attribute [local go_sem] Oper.semAt_some

set_option maxRecDepth 100000 in
set_option maxHeartbeats 2000000 in
theorem appendSeq_inFl (F : Fence) (n : Nat) (hf : F.fn 52) (hro : F.round = none) (hn : 1 ≤ n) (gf : Nat) (lb : Array Value) (hF : F.fn gf) (eg : ∀ args w, (callFunc gf args).run Try.prog w = .ok (.enter gf args) w)
    (n₀ N : Nat) (zs : List Nat) (Sp : List Nat → Prop) (w : World) (hseq : SeqStopsK F (n - 1) Try.prog gf lb (fun x : Nat => #[Value.float .f64 x]) (Below n₀) (fun ys => ys = zs) Sp N w)
    (A : Option Addr) (k c : Nat) (xs : List Nat) (hown : w.ownsRow n₀ 53 1 (.slice A k c) k (flts xs)) (hn₀ : n₀ ≤ w.heap.size) (hb : (k + N) * 8 ≤ 140737488355328) :
    CallsIn F n Try.prog 52 #[.slice A k c, .func (.func gf) #[] lb] w fun e W' => ∃ A' c', e = .returned (.slice A' (k + zs.length) c') ∧ W'.ownsRow n₀ 53 1 (.slice A' (k + zs.length) c') (k + zs.length) (flts (xs ++ zs)) ∧
      (A'.isNone = (A.isNone && decide (zs = []))) ∧ Below n₀ w W' := by
  obtain ⟨i0, hi, hz0, hz1, hz2⟩ := info_parts infoFl
  refine callsIn_of_wp_marks Try.func52 rfl hf ?_ hro
  simp only [Try.ntmps52, List.size_toArray, List.length_cons, List.length_nil, Nat.reduceAdd, Nat.reduceSub, Array.replicate_succ, Array.replicate_zero, List.push_toArray, List.append_toArray, List.nil_append, List.cons_append]
  gi_wp2
  have bO := Boxed.new w 52 (.slice A k c)
  have hB0 : Below n₀ w (w.alloc (.cells #[.slice A k c] 52)) := (Below.refl _ w).alloc hn₀ _
  refine wpIn_rangeFunc_ownG hro hn (gf := gf) (lb := lb) rfl hF eg hseq belowK_t (belowK_b (by simp; omega)) ((Below.refl _ w).alloc (Nat.le_refl _) _) (fun _ => rfl)
    (fun pre W => (∃ v, Boxed W w.heap.size 52 v ∧ W.ownsRow n₀ 53 1 v (k + pre.length) (flts (xs ++ pre)) ∧ (∃ A' c', v = .slice A' (k + pre.length) c' ∧ (A'.isNone = (A.isNone && decide (pre = []))))) ∧ Below n₀ w W)
    (fun _ _ _ => False)
    (OwnFrom.and (Own.from (holdsRow_own n₀ w.heap.size 52 53 1 (fun pre => k + pre.length) (fun pre => flts (xs ++ pre)) (fun pre v => ∃ A' c', v = .slice A' (k + pre.length) c' ∧ (A'.isNone = (A.isNone && decide (pre = []))))) _) (ownFrom_below hn₀ (by simp; omega)))
    (fun _ _ _ _ _ hs _ _ => hs)
    ⟨⟨_, bO, by simpa using hown.alloc _, A, c, rfl, by simp⟩, hB0⟩
    (fun x => { tmps := #[.slice A k c, .func (.func gf) #[] lb, .pointer (some ⟨w.heap.size, 0, none⟩), undef, .slice none 0 0, .float .f64 x, .func (.func gf) #[] lb, .float .f64 x, undef, undef, undef, undef, undef], defers := [] }) ?assign ?body ?done ?stop
  case assign =>
    intro l x W K hK
    gi_wp2
    exact hK
  case body =>
    rintro l pre x W ⟨⟨v, hv, hrow, A', c', rfl, hnil⟩, hB⟩ hlt
    have hc := hv.cell
    have HN := hide hnil
    clear hnil
    gi_wp2_with (gi_at_builtin; go_must (refine wpListIn_append_own _ rfl _ _ 52 rfl n₀ 53 i0 (.float .f64 0) 1 8 Try.underlying52 hi hz0 hz1 hz2 rfl (by decide) _ _ _ rfl (hrow.alloc _) ⟨W.heap.size, 0, none⟩ 1 1 [.float .f64 x] rfl rfl (cell_one_new _ _ _) (by simp [Value.oneCell']) (by unfold maxLen; omega) (by omega) (by have := hB.size; simp; omega) ?_); intro v' w2 hown' hgrow _; obtain ⟨g', cap', rfl⟩ := ownsRow_succ hown'; obtain ⟨hv1, hv2, hr2, hk2, hb2⟩ := hv.appended (by decide) hrow (by have := hB.size; omega) hn₀ hown' hgrow; have hc1 := hv1.cell; have hf1 := hv1.frozen)
    exact ⟨hk2.from _, hb2, ⟨_, hv2, by simpa [flts, Nat.add_assoc] using hr2, some ⟨g', 0, none⟩, cap', by simp [Nat.add_assoc], by simp⟩, hB.trans hb2⟩
  case done =>
    rintro D ys W hD rfl ⟨⟨v, hv, hrow, A', c', rfl, hnil⟩, hB⟩ hK
    have hc := hv.cell
    have HN := hide hnil
    clear hnil
    gi_wp2
    refine ⟨by simp, .inl ⟨_, _, rfl, run_takeDeferred hK, ?_⟩⟩
    exact ⟨_, results_tmp rfl _ _ _, A', c', rfl, ownsRow_putObj hrow _ hK rfl, HN.out, hB.trans (belowK_b (w := w) hn₀ W D _ _ (by simp at hD; omega) hK rfl rfl)⟩
  case stop =>
    rintro D c pre W _ _ h _
    exact h.elim

set_option maxHeartbeats 1000000 in
theorem collect_inFl (F : Fence) (n : Nat) (hf : F.fn 44) (hg : F.fn 52) (hro : F.round = none) (hn : 2 ≤ n) (gf : Nat) (lb : Array Value) (hF : F.fn gf) (eg : ∀ args w, (callFunc gf args).run Try.prog w = .ok (.enter gf args) w)
    (n₀ N : Nat) (zs : List Nat) (Sp : List Nat → Prop) (w : World) (hseq : SeqStopsK F (n - 1 - 1) Try.prog gf lb (fun x : Nat => #[Value.float .f64 x]) (Below n₀) (fun ys => ys = zs) Sp N w)
    (hn₀ : n₀ ≤ w.heap.size) (hb : N * 8 ≤ 140737488355328) :
    CallsIn F n Try.prog 44 #[.func (.func gf) #[] lb] w fun e W' => ∃ A' c', e = .returned (.slice A' zs.length c') ∧ W'.ownsRow n₀ 53 1 (.slice A' zs.length c') zs.length (flts zs) ∧
      (A'.isNone = decide (zs = [])) ∧ Below n₀ w W' := by
  have hn1 : 1 ≤ n := by omega
  have hco := appendSeq_inFl F (n - 1) hg hro (by omega) gf lb hF eg n₀ N zs Sp w hseq none 0 0 [] (by simpa using World.ownsRow_nil _ _ _ _) hn₀ (by omega)
  simp only [Nat.zero_add, Option.isNone_none, Bool.true_and, List.nil_append] at hco
  have HC := hide hco
  clear hco hseq
  refine callsIn_of_wp Try.func44 rfl hf ?_ hro
  simp only [Try.ntmps44, List.size_toArray, List.length_cons, List.length_nil, Nat.reduceAdd, Nat.reduceSub, Array.replicate_succ, Array.replicate_zero, List.push_toArray, List.append_toArray, List.nil_append, List.cons_append]
  gi_wp2_with (gi_at_call 52; refine (CallsIn.mono (unhide HC) ?_); rintro e w1 ⟨A', c', rfl, ho, hnl, hbl⟩; have HO := hide ho; have HL := hide hnl; clear ho hnl)
  go_ret
  exact ⟨A', c', rfl, HO.out, HL.out, hbl⟩

end Go.Proofs.Ythefajbahbmohaa
