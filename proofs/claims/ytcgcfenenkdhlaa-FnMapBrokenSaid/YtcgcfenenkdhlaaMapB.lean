/-
  impl.MapAllBroken, MapKeysBroken, MapValuesBroken.
-/
import Derived.Test.YtcgcfenenkdhlaaMapK
namespace Go.Proofs.Ytcgcfenenkdhlaa
open Go.RowKit Go.Maps Go.Sort Go.Shelf
set_option linter.unusedVariables false
set_option linter.unusedSimpArgs false
attribute [local go_sem] Oper.semAt_some


set_option maxRecDepth 100000 in
set_option maxHeartbeats 2000000 in
theorem implMapAllBroken (a : Option Addr) (len cap : Nat) (zs : List (Int × Int)) (most : Int) (hreach : len * 16 ≤ 140737488351232) (hf : WF zs) (w : World) (hI : Rd w w.heap.size 2 a len (pairs zs)) :
    Calls Try.prog 24 #[.slice a len cap, .int .i64 most] w fun e W' => ∃ k : Nat, e = .returned (.int .i64 k) ∧ (∀ t, Tab t (lk zs) → k = firstN t.length most) ∧ Below w.heap.size w W' := by
  refine (callsIn_wide (n := 3)).1 ?_
  have HF := hide hf
  clear hf
  refine callsIn_of_wp_marks Try.func24 rfl trivial ?_ rfl
  simp only [Try.ntmps24, List.size_toArray, List.length_cons, List.length_nil, Nat.reduceAdd, Nat.reduceSub, Array.replicate_succ, Array.replicate_zero, List.push_toArray, List.append_toArray, List.nil_append, List.cons_append]
  gi_wp2_with (first
    | (refine ⟨trivial, ?_⟩; gi_at_call 36; refine (callsIn_wide.2 (implTable a len cap zs hreach HF.out _ (((hI.alloc (Nat.le_refl _) _).alloc (by simp) _).more (by simp; omega)))).mono ?_; rintro e w1 ⟨rfl, hm, hB1⟩)
    | (refine ⟨trivial, ?_⟩; gi_at_call 35; refine (mall_in _ _ _).mono ?_; rintro e w2 ⟨rfl, rfl⟩))
  have bM := Boxed.new w 3 (.int .i64 most)
  obtain ⟨w0, hw0⟩ : ∃ w0, w0 = w.alloc (.cells #[.int .i64 most] 3) := ⟨_, rfl⟩
  rw [← hw0] at hB1 bM
  have hs0 : w0.heap.size = w.heap.size + 1 := by rw [hw0]; simp
  have bN := Boxed.new w0 3 (.int .i64 0)
  rw [hs0] at bN
  have hBw : Below w.heap.size w w0 := by rw [hw0]; exact (Below.refl _ w).alloc (Nat.le_refl _) _
  simp only [World.size_alloc, hs0] at hm hB1
  have hB2 : Below (w.heap.size + 1) w0 w1 := ((Below.refl _ w0).alloc (by omega) _).trans (hB1.mono (by omega))
  clear hw0
  have hbd := hm.size_le
  have hml := hm.lt
  have hsz := hB1.size
  simp only [World.size_alloc, hs0] at hsz
  have bN1 : Boxed w1 (w.heap.size + 1) 3 (.int .i64 0) := (hB1.block _ (by omega)).trans bN
  have bT := Boxed.new w1 47 (.map (some (w.heap.size + 1 + 1)))
  have hB3 : Below (w.heap.size + 1) w0 (w1.alloc (.cells #[.map (some (w.heap.size + 1 + 1))] 47)) := hB2.alloc (by omega) _
  refine wpIn_rangeFunc_ownG rfl (by decide) (gf := 51) (lb := #[.pointer (some ⟨w1.heap.size, 0, none⟩)]) rfl trivial (enters_of Try.func51 (by kernel_rfl) rfl)
    (mall_stops 2 (by decide) w1.heap.size (w.heap.size + 1 + 1) len (mp zs) (w1.alloc (.cells #[.map (some (w.heap.size + 1 + 1))] 47)) (by simp) bT.cell (hm.alloc _)) walksK_t walksK_b (Below.refl _ _) (fun _ => rfl)
    (fun pre W => (Boxed W (w.heap.size + 1) 3 (.int .i64 (pre.length : Nat)) ∧ (most < 0 ∨ (pre.length : Int) ≤ most)) ∧ Below (w.heap.size + 1) w0 W)
    (fun c pre W => (c = .exit 0 ∧ Boxed W (w.heap.size + 1) 3 (.int .i64 ((pre.length - 1 : Nat) : Nat)) ∧ (pre ≠ [] ∧ ((pre.length - 1 : Nat) : Int) = most)) ∧ Below (w.heap.size + 1) w0 W)
    (OwnFrom.and (fun s X Y row ⟨h1, h2⟩ hg hr => ⟨h1.kept hg (fun e => by have := (hr _ e.symm).1; simp at this; omega), h2⟩) (ownFrom_below (by omega) (by simp; omega)))
    (fun c => OwnFrom.and (fun s X Y row ⟨h0, h1, h2⟩ hg hr => ⟨h0, h1.kept hg (fun e => by have := (hr _ e.symm).1; simp at this; omega), h2⟩) (ownFrom_below (by omega) (by simp; omega)))
    ⟨⟨bN1.alloc _, by simp; omega⟩, hB3⟩
    (fun x => { tmps := #[.slice a len cap, .int .i64 most, undef, .pointer (some ⟨w.heap.size, 0, none⟩), .int .i64 0, .pointer (some ⟨w.heap.size + 1, 0, none⟩), .slice a len cap, .map (some (w.heap.size + 1 + 1)), .func (.func 51) #[] #[.pointer (some ⟨w1.heap.size, 0, none⟩)], .int .i64 x.1, .int .i64 x.2, undef, undef, undef, undef, undef, undef], defers := [] }) ?assign ?body ?done ?stop
  case assign =>
    intro l x W K hK
    gi_wp2
    simpa using hK
  case body =>
    rintro l pre x W ⟨⟨hv, hle⟩, hB⟩ hlt
    have hc := hv.cell
    have hf1 := hv.frozen
    have hmc := (hB.cell (p := ⟨w.heap.size, 0, none⟩) (by simp)).trans bM.cell
    by_cases hm2 : (pre.length : Int) = most
    · have hm' : ((pre.length : Int) == most) = true := by simpa using hm2
      have HM := hide hm2
      clear hm2
      gi_wp2
      exact ⟨KeepsFrom.refl _ _, ⟨rfl, by simpa using hv, by simp, by simpa using HM.out⟩, hB⟩
    · have hm' : ((pre.length : Int) == most) = false := by simpa using hm2
      have HM := hide hm2
      clear hm2
      gi_wp2
      refine ⟨(KeepsOthers.setCell _ _ _).from _, (KeepsOthers.setCell _ _ _).walks, ⟨?_, by have := HM.out; rw [List.length_append, List.length_singleton]; omega⟩, hB.setCell (by simp) _⟩
      rw [show ((pre ++ [x]).length : Int) = (pre.length : Int) + 1 by simp]
      exact hv.set _
  case done =>
    rintro D ys W hD ⟨ps, hps, hys⟩ ⟨⟨hv, hle⟩, hB⟩ hK
    have hall : AllF (lk zs) ps := (reads_mp zs).allF hps.1 hps.2.1 hps.2.2
    have hyl : ys.length = ps.length := by rw [hys]; try simp
    rw [hyl] at hv hle
    clear hys hyl
    have hc := hv.cell
    gi_wp2
    refine ⟨by simp, .inl ⟨_, _, rfl, run_takeDeferred hK, ?_⟩⟩
    refine ⟨_, results_tmp rfl _ _ _, ps.length, by simp, fun t ht => ?_, ?_⟩
    · have := hall.length ht
      clear hps; unfold firstN; split <;> omega
    · exact hBw.trans ((hB.mono (Nat.le_succ _)).trans (belowK_b (w := w) (Nat.le_refl _) W D _ _ (by simp at hD; omega) hK rfl rfl))
  case stop =>
    rintro D c pre W hD ⟨ps, hps, hys⟩ ⟨⟨rfl, hv, hne, hm⟩, hB⟩ hK
    have hpt : PartF (lk zs) ps := (reads_mp zs).partF hps.1 hps.2.1 hps.2.2
    have hyl : pre.length = ps.length := by rw [hys]; try simp
    have hne : 0 < ps.length := by rw [← hyl]; exact List.length_pos_iff.2 hne
    rw [hyl] at hv hm
    clear hys hyl
    have hc := hv.cell
    have HM := hide hm
    have HE := hide hne
    clear hm hne
    gi_wp2
    refine ⟨by simp, .inl ⟨_, _, rfl, run_takeDeferred hK, ?_⟩⟩
    refine ⟨_, results_tmp rfl _ _ _, ps.length - 1, by simp, fun t ht => ?_, ?_⟩
    · have h1 := hpt.length ht
      have h2 := HM.out
      have h3 := HE.out
      clear hps; unfold firstN; split <;> omega
    · exact hBw.trans ((hB.mono (Nat.le_succ _)).trans (belowK_b (w := w) (Nat.le_refl _) W D _ _ (by simp at hD; omega) hK rfl rfl))

set_option maxRecDepth 100000 in
set_option maxHeartbeats 2000000 in
theorem implMapKeysBroken (a : Option Addr) (len cap : Nat) (zs : List (Int × Int)) (most : Int) (hreach : len * 16 ≤ 140737488351232) (hf : WF zs) (w : World) (hI : Rd w w.heap.size 2 a len (pairs zs)) :
    Calls Try.prog 25 #[.slice a len cap, .int .i64 most] w fun e W' => ∃ k : Nat, e = .returned (.int .i64 k) ∧ (∀ t, Tab t (lk zs) → k = firstN t.length most) ∧ Below w.heap.size w W' := by
  refine (callsIn_wide (n := 3)).1 ?_
  have HF := hide hf
  clear hf
  refine callsIn_of_wp_marks Try.func25 rfl trivial ?_ rfl
  simp only [Try.ntmps25, List.size_toArray, List.length_cons, List.length_nil, Nat.reduceAdd, Nat.reduceSub, Array.replicate_succ, Array.replicate_zero, List.push_toArray, List.append_toArray, List.nil_append, List.cons_append]
  gi_wp2_with (first
    | (refine ⟨trivial, ?_⟩; gi_at_call 36; refine (callsIn_wide.2 (implTable a len cap zs hreach HF.out _ (((hI.alloc (Nat.le_refl _) _).alloc (by simp) _).more (by simp; omega)))).mono ?_; rintro e w1 ⟨rfl, hm, hB1⟩)
    | (refine ⟨trivial, ?_⟩; gi_at_call 39; refine (mkeys_in _ _ _).mono ?_; rintro e w2 ⟨rfl, rfl⟩))
  have bM := Boxed.new w 3 (.int .i64 most)
  obtain ⟨w0, hw0⟩ : ∃ w0, w0 = w.alloc (.cells #[.int .i64 most] 3) := ⟨_, rfl⟩
  rw [← hw0] at hB1 bM
  have hs0 : w0.heap.size = w.heap.size + 1 := by rw [hw0]; simp
  have bN := Boxed.new w0 3 (.int .i64 0)
  rw [hs0] at bN
  have hBw : Below w.heap.size w w0 := by rw [hw0]; exact (Below.refl _ w).alloc (Nat.le_refl _) _
  simp only [World.size_alloc, hs0] at hm hB1
  have hB2 : Below (w.heap.size + 1) w0 w1 := ((Below.refl _ w0).alloc (by omega) _).trans (hB1.mono (by omega))
  clear hw0
  have hbd := hm.size_le
  have hml := hm.lt
  have hsz := hB1.size
  simp only [World.size_alloc, hs0] at hsz
  have bN1 : Boxed w1 (w.heap.size + 1) 3 (.int .i64 0) := (hB1.block _ (by omega)).trans bN
  have bT := Boxed.new w1 47 (.map (some (w.heap.size + 1 + 1)))
  have hB3 : Below (w.heap.size + 1) w0 (w1.alloc (.cells #[.map (some (w.heap.size + 1 + 1))] 47)) := hB2.alloc (by omega) _
  refine wpIn_rangeFunc_ownG rfl (by decide) (gf := 57) (lb := #[.pointer (some ⟨w1.heap.size, 0, none⟩)]) rfl trivial (enters_of Try.func57 (by kernel_rfl) rfl)
    (mkeys_stops 2 (by decide) w1.heap.size (w.heap.size + 1 + 1) len (mp zs) (w1.alloc (.cells #[.map (some (w.heap.size + 1 + 1))] 47)) (by simp) bT.cell (hm.alloc _)) walksK_t walksK_b (Below.refl _ _) (fun _ => rfl)
    (fun pre W => (Boxed W (w.heap.size + 1) 3 (.int .i64 (pre.length : Nat)) ∧ (most < 0 ∨ (pre.length : Int) ≤ most)) ∧ Below (w.heap.size + 1) w0 W)
    (fun c pre W => (c = .exit 0 ∧ Boxed W (w.heap.size + 1) 3 (.int .i64 ((pre.length - 1 : Nat) : Nat)) ∧ (pre ≠ [] ∧ ((pre.length - 1 : Nat) : Int) = most)) ∧ Below (w.heap.size + 1) w0 W)
    (OwnFrom.and (fun s X Y row ⟨h1, h2⟩ hg hr => ⟨h1.kept hg (fun e => by have := (hr _ e.symm).1; simp at this; omega), h2⟩) (ownFrom_below (by omega) (by simp; omega)))
    (fun c => OwnFrom.and (fun s X Y row ⟨h0, h1, h2⟩ hg hr => ⟨h0, h1.kept hg (fun e => by have := (hr _ e.symm).1; simp at this; omega), h2⟩) (ownFrom_below (by omega) (by simp; omega)))
    ⟨⟨bN1.alloc _, by simp; omega⟩, hB3⟩
    (fun x => { tmps := #[.slice a len cap, .int .i64 most, undef, .pointer (some ⟨w.heap.size, 0, none⟩), .int .i64 0, .pointer (some ⟨w.heap.size + 1, 0, none⟩), .slice a len cap, .map (some (w.heap.size + 1 + 1)), .func (.func 57) #[] #[.pointer (some ⟨w1.heap.size, 0, none⟩)], .int .i64 x, undef, undef, undef, undef, undef, undef], defers := [] }) ?assign ?body ?done ?stop
  case assign =>
    intro l x W K hK
    gi_wp2
    simpa using hK
  case body =>
    rintro l pre x W ⟨⟨hv, hle⟩, hB⟩ hlt
    have hc := hv.cell
    have hf1 := hv.frozen
    have hmc := (hB.cell (p := ⟨w.heap.size, 0, none⟩) (by simp)).trans bM.cell
    by_cases hm2 : (pre.length : Int) = most
    · have hm' : ((pre.length : Int) == most) = true := by simpa using hm2
      have HM := hide hm2
      clear hm2
      gi_wp2
      exact ⟨KeepsFrom.refl _ _, ⟨rfl, by simpa using hv, by simp, by simpa using HM.out⟩, hB⟩
    · have hm' : ((pre.length : Int) == most) = false := by simpa using hm2
      have HM := hide hm2
      clear hm2
      gi_wp2
      refine ⟨(KeepsOthers.setCell _ _ _).from _, (KeepsOthers.setCell _ _ _).walks, ⟨?_, by have := HM.out; rw [List.length_append, List.length_singleton]; omega⟩, hB.setCell (by simp) _⟩
      rw [show ((pre ++ [x]).length : Int) = (pre.length : Int) + 1 by simp]
      exact hv.set _
  case done =>
    rintro D ys W hD ⟨ps, hps, hys⟩ ⟨⟨hv, hle⟩, hB⟩ hK
    have hall : AllF (lk zs) ps := (reads_mp zs).allF hps.1 hps.2.1 hps.2.2
    have hyl : ys.length = ps.length := by rw [hys]; try simp
    rw [hyl] at hv hle
    clear hys hyl
    have hc := hv.cell
    gi_wp2
    refine ⟨by simp, .inl ⟨_, _, rfl, run_takeDeferred hK, ?_⟩⟩
    refine ⟨_, results_tmp rfl _ _ _, ps.length, by simp, fun t ht => ?_, ?_⟩
    · have := hall.length ht
      clear hps; unfold firstN; split <;> omega
    · exact hBw.trans ((hB.mono (Nat.le_succ _)).trans (belowK_b (w := w) (Nat.le_refl _) W D _ _ (by simp at hD; omega) hK rfl rfl))
  case stop =>
    rintro D c pre W hD ⟨ps, hps, hys⟩ ⟨⟨rfl, hv, hne, hm⟩, hB⟩ hK
    have hpt : PartF (lk zs) ps := (reads_mp zs).partF hps.1 hps.2.1 hps.2.2
    have hyl : pre.length = ps.length := by rw [hys]; try simp
    have hne : 0 < ps.length := by rw [← hyl]; exact List.length_pos_iff.2 hne
    rw [hyl] at hv hm
    clear hys hyl
    have hc := hv.cell
    have HM := hide hm
    have HE := hide hne
    clear hm hne
    gi_wp2
    refine ⟨by simp, .inl ⟨_, _, rfl, run_takeDeferred hK, ?_⟩⟩
    refine ⟨_, results_tmp rfl _ _ _, ps.length - 1, by simp, fun t ht => ?_, ?_⟩
    · have h1 := hpt.length ht
      have h2 := HM.out
      have h3 := HE.out
      clear hps; unfold firstN; split <;> omega
    · exact hBw.trans ((hB.mono (Nat.le_succ _)).trans (belowK_b (w := w) (Nat.le_refl _) W D _ _ (by simp at hD; omega) hK rfl rfl))

set_option maxRecDepth 100000 in
set_option maxHeartbeats 2000000 in
theorem implMapValuesBroken (a : Option Addr) (len cap : Nat) (zs : List (Int × Int)) (most : Int) (hreach : len * 16 ≤ 140737488351232) (hf : WF zs) (w : World) (hI : Rd w w.heap.size 2 a len (pairs zs)) :
    Calls Try.prog 26 #[.slice a len cap, .int .i64 most] w fun e W' => ∃ k : Nat, e = .returned (.int .i64 k) ∧ (∀ t, Tab t (lk zs) → k = firstN t.length most) ∧ Below w.heap.size w W' := by
  refine (callsIn_wide (n := 3)).1 ?_
  have HF := hide hf
  clear hf
  refine callsIn_of_wp_marks Try.func26 rfl trivial ?_ rfl
  simp only [Try.ntmps26, List.size_toArray, List.length_cons, List.length_nil, Nat.reduceAdd, Nat.reduceSub, Array.replicate_succ, Array.replicate_zero, List.push_toArray, List.append_toArray, List.nil_append, List.cons_append]
  gi_wp2_with (first
    | (refine ⟨trivial, ?_⟩; gi_at_call 36; refine (callsIn_wide.2 (implTable a len cap zs hreach HF.out _ (((hI.alloc (Nat.le_refl _) _).alloc (by simp) _).more (by simp; omega)))).mono ?_; rintro e w1 ⟨rfl, hm, hB1⟩)
    | (refine ⟨trivial, ?_⟩; gi_at_call 43; refine (mvals_in _ _ _).mono ?_; rintro e w2 ⟨rfl, rfl⟩))
  have bM := Boxed.new w 3 (.int .i64 most)
  obtain ⟨w0, hw0⟩ : ∃ w0, w0 = w.alloc (.cells #[.int .i64 most] 3) := ⟨_, rfl⟩
  rw [← hw0] at hB1 bM
  have hs0 : w0.heap.size = w.heap.size + 1 := by rw [hw0]; simp
  have bN := Boxed.new w0 3 (.int .i64 0)
  rw [hs0] at bN
  have hBw : Below w.heap.size w w0 := by rw [hw0]; exact (Below.refl _ w).alloc (Nat.le_refl _) _
  simp only [World.size_alloc, hs0] at hm hB1
  have hB2 : Below (w.heap.size + 1) w0 w1 := ((Below.refl _ w0).alloc (by omega) _).trans (hB1.mono (by omega))
  clear hw0
  have hbd := hm.size_le
  have hml := hm.lt
  have hsz := hB1.size
  simp only [World.size_alloc, hs0] at hsz
  have bN1 : Boxed w1 (w.heap.size + 1) 3 (.int .i64 0) := (hB1.block _ (by omega)).trans bN
  have bT := Boxed.new w1 47 (.map (some (w.heap.size + 1 + 1)))
  have hB3 : Below (w.heap.size + 1) w0 (w1.alloc (.cells #[.map (some (w.heap.size + 1 + 1))] 47)) := hB2.alloc (by omega) _
  refine wpIn_rangeFunc_ownG rfl (by decide) (gf := 61) (lb := #[.pointer (some ⟨w1.heap.size, 0, none⟩)]) rfl trivial (enters_of Try.func61 (by kernel_rfl) rfl)
    (mvals_stops 2 (by decide) w1.heap.size (w.heap.size + 1 + 1) len (mp zs) (w1.alloc (.cells #[.map (some (w.heap.size + 1 + 1))] 47)) (by simp) bT.cell (hm.alloc _)) walksK_t walksK_b (Below.refl _ _) (fun _ => rfl)
    (fun pre W => (Boxed W (w.heap.size + 1) 3 (.int .i64 (pre.length : Nat)) ∧ (most < 0 ∨ (pre.length : Int) ≤ most)) ∧ Below (w.heap.size + 1) w0 W)
    (fun c pre W => (c = .exit 0 ∧ Boxed W (w.heap.size + 1) 3 (.int .i64 ((pre.length - 1 : Nat) : Nat)) ∧ (pre ≠ [] ∧ ((pre.length - 1 : Nat) : Int) = most)) ∧ Below (w.heap.size + 1) w0 W)
    (OwnFrom.and (fun s X Y row ⟨h1, h2⟩ hg hr => ⟨h1.kept hg (fun e => by have := (hr _ e.symm).1; simp at this; omega), h2⟩) (ownFrom_below (by omega) (by simp; omega)))
    (fun c => OwnFrom.and (fun s X Y row ⟨h0, h1, h2⟩ hg hr => ⟨h0, h1.kept hg (fun e => by have := (hr _ e.symm).1; simp at this; omega), h2⟩) (ownFrom_below (by omega) (by simp; omega)))
    ⟨⟨bN1.alloc _, by simp; omega⟩, hB3⟩
    (fun x => { tmps := #[.slice a len cap, .int .i64 most, undef, .pointer (some ⟨w.heap.size, 0, none⟩), .int .i64 0, .pointer (some ⟨w.heap.size + 1, 0, none⟩), .slice a len cap, .map (some (w.heap.size + 1 + 1)), .func (.func 61) #[] #[.pointer (some ⟨w1.heap.size, 0, none⟩)], .int .i64 x, undef, undef, undef, undef, undef, undef], defers := [] }) ?assign ?body ?done ?stop
  case assign =>
    intro l x W K hK
    gi_wp2
    simpa using hK
  case body =>
    rintro l pre x W ⟨⟨hv, hle⟩, hB⟩ hlt
    have hc := hv.cell
    have hf1 := hv.frozen
    have hmc := (hB.cell (p := ⟨w.heap.size, 0, none⟩) (by simp)).trans bM.cell
    by_cases hm2 : (pre.length : Int) = most
    · have hm' : ((pre.length : Int) == most) = true := by simpa using hm2
      have HM := hide hm2
      clear hm2
      gi_wp2
      exact ⟨KeepsFrom.refl _ _, ⟨rfl, by simpa using hv, by simp, by simpa using HM.out⟩, hB⟩
    · have hm' : ((pre.length : Int) == most) = false := by simpa using hm2
      have HM := hide hm2
      clear hm2
      gi_wp2
      refine ⟨(KeepsOthers.setCell _ _ _).from _, (KeepsOthers.setCell _ _ _).walks, ⟨?_, by have := HM.out; rw [List.length_append, List.length_singleton]; omega⟩, hB.setCell (by simp) _⟩
      rw [show ((pre ++ [x]).length : Int) = (pre.length : Int) + 1 by simp]
      exact hv.set _
  case done =>
    rintro D ys W hD ⟨ps, hps, hys⟩ ⟨⟨hv, hle⟩, hB⟩ hK
    have hall : AllF (lk zs) ps := (reads_mp zs).allF hps.1 hps.2.1 hps.2.2
    have hyl : ys.length = ps.length := by rw [hys]; try simp
    rw [hyl] at hv hle
    clear hys hyl
    have hc := hv.cell
    gi_wp2
    refine ⟨by simp, .inl ⟨_, _, rfl, run_takeDeferred hK, ?_⟩⟩
    refine ⟨_, results_tmp rfl _ _ _, ps.length, by simp, fun t ht => ?_, ?_⟩
    · have := hall.length ht
      clear hps; unfold firstN; split <;> omega
    · exact hBw.trans ((hB.mono (Nat.le_succ _)).trans (belowK_b (w := w) (Nat.le_refl _) W D _ _ (by simp at hD; omega) hK rfl rfl))
  case stop =>
    rintro D c pre W hD ⟨ps, hps, hys⟩ ⟨⟨rfl, hv, hne, hm⟩, hB⟩ hK
    have hpt : PartF (lk zs) ps := (reads_mp zs).partF hps.1 hps.2.1 hps.2.2
    have hyl : pre.length = ps.length := by rw [hys]; try simp
    have hne : 0 < ps.length := by rw [← hyl]; exact List.length_pos_iff.2 hne
    rw [hyl] at hv hm
    clear hys hyl
    have hc := hv.cell
    have HM := hide hm
    have HE := hide hne
    clear hm hne
    gi_wp2
    refine ⟨by simp, .inl ⟨_, _, rfl, run_takeDeferred hK, ?_⟩⟩
    refine ⟨_, results_tmp rfl _ _ _, ps.length - 1, by simp, fun t ht => ?_, ?_⟩
    · have h1 := hpt.length ht
      have h2 := HM.out
      have h3 := HE.out
      clear hps; unfold firstN; split <;> omega
    · exact hBw.trans ((hB.mono (Nat.le_succ _)).trans (belowK_b (w := w) (Nat.le_refl _) W D _ _ (by simp at hD; omega) hK rfl rfl))
end Go.Proofs.Ytcgcfenenkdhlaa
