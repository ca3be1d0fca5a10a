/-
  FnChunkWrite: the law returns true at every input of at most 1048576 values, and changes nothing that was there.
-/
import Derived.ProofKit
import Derived.OpenShut
import Derived.JoinedCond
import Derived.Deep.CondSized
import Derived.SizedLaws
import Derived.WalkKit
import Derived.WalkLawsBesides
import Derived.Outline
import Derived.Deep.DeepMust
import Derived.Test.YtiihcdoemgmjbaaOpen
import Derived.Test.YtiihcdoemgmjbaaChkW
import Derived.Test.YtiihcdoemgmjbaaChkS
import Derived.Test.YtiihcdoemgmjbaaSpec
namespace Go.Proofs.Ytiihcdoemgmjbaa.fnChunkWrite
open Go.ChangeShapes Go.WideShapes Go.ChangeAt Go.RowKit
set_option linter.unusedVariables false
set_option linter.unusedSimpArgs false

theorem firstN_neg (n : Nat) : firstN n (-1) = n := by unfold firstN; rw [if_neg (by omega)]
set_option maxRecDepth 100000 in
set_option maxHeartbeats 4000000 in
theorem walk (a0 : Option Addr) (l0 c0 : Nat) (z0 : List Int) (a1 : Int) (a2 : Int) (a3 : Int) (w : World) (k0 : l0 ≤ c0) (m0 : c0 ≤ maxLen) (r0 : Rd w w.heap.size 1 a0 l0 (ints z0)) (f0 : ∀ x ∈ z0, (Lit.int .i64 x).wf = true) (f1 : (Lit.int .i64 a1).wf = true) (f2 : (Lit.int .i64 a2).wf = true) (f3 : (Lit.int .i64 a3).wf = true) (bu : l0 ≤ 1048576) :
    Calls Try.prog 6 #[.slice a0 l0 c0, .int .i64 a1, .int .i64 a2, .int .i64 a3] w fun e w' => e = .returned (.bool true) ∧ Below w.heap.size w w' := by
  have hlen : l0 ≤ 4194304 := by omega
  have hb8 : l0 * 8 ≤ 140737488351232 := by omega
  have hn2 : l0 ≤ 9223372036854775807 := by omega
  obtain ⟨hlo, hhi⟩ := bounds_i64 f1
  have hz : z0.length = l0 := by have := r0.1; simpa using this
  have HZ := hide hz
  clear f1 f2 f3 bu hz
  by_cases hneg : a1 < 1
  · have hd : decide (a1 < 1) = true := by simpa using hneg
    have HP := hide (implChunkWrite_panic a0 l0 c0 z0 a1 a2 a3 hb8 hneg w r0)
    go_enter Try.func6, Try.ntmps6
    go_wp2_with fail
    refine HP.out.mono ?_
    rintro e w1 ⟨rfl, g1⟩
    go_wp2_with fail
    go_ret
    exact ⟨by simp, g1⟩
  · obtain ⟨c, rfl⟩ : ∃ c : Nat, a1 = (c : Int) := ⟨a1.toNat, by omega⟩
    have hd : decide ((c : Int) < 1) = false := by simpa using hneg
    have hd2 : ¬ ((c : Int) < 1) := hneg
    have q1 : 1 ≤ c := by omega
    have q2 : c ≤ 9223372036854775807 := by omega
    clear hneg
    have himp := implChunkWrite a0 l0 c0 z0 c a2 a3 hb8 q1 q2 w r0
    by_cases hk : 0 ≤ a2
    · obtain ⟨k, rfl⟩ : ∃ k : Nat, a2 = (k : Int) := ⟨a2.toNat, by omega⟩
      have hkd : decide ((0 : Int) ≤ (k : Int)) = true := by simp
      have hsc := fun (w1 : World) h => specChunk a0 l0 c0 z0 c (-1) hlen k0 q1 q2 w1 h
      rw [firstN_neg] at hsc
      have HSC := hide hsc
      clear hsc
      by_cases hkn : k < nCh c l0
      · have hsl := nCh_lt q1 hkn
        rw [wcon_range, if_pos (by omega), Int.toNat_natCast] at himp
        obtain ⟨s, hs⟩ : ∃ s, k * c = s := ⟨_, rfl⟩
        rw [hs] at hsl himp
        have hsi : (k : Int) * (c : Int) = (s : Int) := by rw [← hs]; simp
        have hws : IntKind.i64.wrap (s : Int) = (s : Int) := IntWalk.i64_in _ (by omega)
        have hkn2 : (k : Int) < (nCh c l0 : Int) := by omega
        have HIM := hide himp
        obtain ⟨N, hN⟩ : ∃ N, nCh c l0 = N := ⟨_, rfl⟩
        rw [hN] at HSC hkn hkn2
        have hsz : (0 : Int) ≤ (s : Int) := by omega
        have hsl2 : (s : Int) < (l0 : Int) := by omega
        clear himp hs hN
        go_enter Try.func6, Try.ntmps6
        go_wp2_with fail
        refine HIM.out.mono ?_
        rintro e w1 ⟨A1, d1, rfl, own1, g1⟩
        have hs1 := g1.size
        go_wp2_with fail
        refine (specValuesAll a0 l0 c0 z0 hb8 w1 ((r0.below g1).more hs1)).mono ?_
        rintro e w2 ⟨A2, d2, rfl, own2, g2⟩
        have hs2 := g2.size
        have g02 := g1.trans (g2.mono hs1)
        have hs02 := g02.size
        go_wp2_with fail
        refine (HSC.out w2 ((r0.below g02).more hs02)).mono ?_
        rintro e w3 ⟨A3, d3, rs3, rfl, hr3, hq3, g3⟩
        have hs3 := g3.size
        have own3 := ownsRow_below' own2 g3 (Nat.le_refl _)
        have x1 := (own1.below g2).below (g3.mono hs2)
        obtain ⟨g, cap, hv, hgb⟩ := own_some own3 (by omega)
        obtain ⟨rfl, rfl⟩ : A2 = some ⟨g, 0, none⟩ ∧ d2 = cap := by injection hv with h1 h2 h3; exact ⟨h1, h3⟩
        have hcs := own3.cellAt s (by omega)
        obtain ⟨u0, hu0⟩ : ∃ u0, (ints z0)[s]? = some u0 := ⟨_, List.getElem?_eq_getElem (by simp; have := HZ.out; omega)⟩
        rw [hu0] at hcs
        have hfs := own3.frozenAt s
        have hst := own3.stored s (.int .i64 a3)
        rw [ints_set] at hst
        have HST := hide hst
        have HU := hide hu0
        clear hst hu0 hv hr3 hq3 own1 own2 own3
        go_wp2_with fail
        have x2 := Rd.of_own HST.out.1
        have gS : Below w1.heap.size w3 (w3.setCell ⟨g, s, none⟩ (.int .i64 a3)) := (Below.refl _ _).setCell (p := ⟨g, s, none⟩) hgb _
        refine (equalIntT _ _ _ _ _ _ _ _ _ _ (x1.below gS) x2 hn2).mono ?_
        rintro e w4 ⟨rfl, hd4⟩
        go_wp2_with fail
        go_ret
        exact ⟨by simp, ((g02.trans (g3.mono hs02)).trans (gS.mono hs1)).trans (hd4.below _)⟩
      · rw [wcon_range, if_neg (by omega)] at himp
        have HIM := hide himp
        obtain ⟨N, hN⟩ : ∃ N, nCh c l0 = N := ⟨_, rfl⟩
        rw [hN] at HSC hkn
        have hkn2 : ¬ (k : Int) < (N : Int) := by omega
        clear himp hN
        go_enter Try.func6, Try.ntmps6
        go_wp2_with fail
        refine HIM.out.mono ?_
        rintro e w1 ⟨A1, d1, rfl, own1, g1⟩
        have hs1 := g1.size
        go_wp2_with fail
        refine (specValuesAll a0 l0 c0 z0 hb8 w1 ((r0.below g1).more hs1)).mono ?_
        rintro e w2 ⟨A2, d2, rfl, own2, g2⟩
        have hs2 := g2.size
        have g02 := g1.trans (g2.mono hs1)
        have hs02 := g02.size
        go_wp2_with fail
        refine (HSC.out w2 ((r0.below g02).more hs02)).mono ?_
        rintro e w3 ⟨A3, d3, rs3, rfl, hr3, hq3, g3⟩
        have hs3 := g3.size
        have x2 := (Rd.of_own own2).below g3
        have x1 := (own1.below g2).below (g3.mono hs2)
        clear hr3 hq3 own1 own2
        go_wp2_with fail
        refine (equalIntT _ _ _ _ _ _ _ _ _ _ x1 x2 hn2).mono ?_
        rintro e w4 ⟨rfl, hd4⟩
        go_wp2_with fail
        go_ret
        exact ⟨by simp, (g02.trans (g3.mono hs02)).trans (hd4.below _)⟩
    · have hkd : decide ((0 : Int) ≤ a2) = false := by simpa using hk
      rw [wcon_range, if_neg (by omega)] at himp
      have HIM := hide himp
      clear himp
      go_enter Try.func6, Try.ntmps6
      go_wp2_with fail
      refine HIM.out.mono ?_
      rintro e w1 ⟨A1, d1, rfl, own1, g1⟩
      have hs1 := g1.size
      go_wp2_with fail
      refine (specValuesAll a0 l0 c0 z0 hb8 w1 ((r0.below g1).more hs1)).mono ?_
      rintro e w2 ⟨A2, d2, rfl, own2, g2⟩
      have hs2 := g2.size
      have g02 := g1.trans (g2.mono hs1)
      have x2 := Rd.of_own own2
      have x1 := own1.below g2
      clear own1 own2
      go_wp2_with fail
      refine (equalIntT _ _ _ _ _ _ _ _ _ _ x1 x2 hn2).mono ?_
      rintro e w4 ⟨rfl, hd4⟩
      go_wp2_with fail
      go_ret
      exact ⟨by simp, g02.trans (hd4.below _)⟩

set_option maxRecDepth 100000 in
theorem lifted (os : Os) (started : os.Started) (H : Type) (enc : TypeId × Value → H) (F : Stop.Interp) :
    ReturnsInHanded {} Try.checked os 6 .any ((Rows.OpenSpec.upto Rows.fnChunkWriteSpec).pre6 enc Try.prog Try.f6 Rows.fnChunkWriteUptoRow.domain false) (((Rows.OpenSpec.upto Rows.fnChunkWriteSpec).at F).post enc Try.prog Try.f6 false true false false) := by
  refine returnsInHanded_of_cond (C := Try.checked) (s := (Rows.OpenSpec.upto Rows.fnChunkWriteSpec)) (k := Rows.uptoSmall) rfl own started (by kernel_rfl) Try.func6
    (OpenSpec.witness (enc := enc) (C := Try.checked) (s := (Rows.OpenSpec.upto Rows.fnChunkWriteSpec)) (k := Rows.uptoSmall) rfl false ⟨#[], #[.slice none 0 0, .int .i64 0, .int .i64 0, .int .i64 0], []⟩ 8 (by kernel_rfl) (by kernel_rfl) (by kernel_rfl)
      (x := ([.nil, .lit (.int .i64 0), .lit (.int .i64 0), .lit (.int .i64 0)], [], [])) (by kernel_rfl) rfl (by kernel_rfl)) ?_
  intro W base args ds gs before hval0 hW _ hk0 _
  have hk := bulk_bound hk0
  have hval : ∀ (j : Nat) t v, Try.f6.params[j]? = some t → args[j]? = some v → Value.okWide Try.prog W .any base t v := hval0
  have hW' := hW
  obtain ⟨p, q, hA0, hV, rfl, hfz, hnd⟩ := hW
  have hA : DataW.TrodAll enc Try.prog W 0 (fun _ => true) true Try.f6.params.toList args.toList ds p := hA0
  rw [Try.params6] at hA hval
  obtain ⟨v0, vs0, d0, ds0, p0, q0, hargs, rfl, rfl, h0, rr0⟩ := trodAll_cons hA
  obtain ⟨v1, vs1, d1, ds1, p1, q1, rfl, rfl, rfl, h1, rr1⟩ := trodAll_cons rr0
  obtain ⟨v2, vs2, d2, ds2, p2, q2, rfl, rfl, rfl, h2, rr2⟩ := trodAll_cons rr1
  obtain ⟨v3, vs3, d3, ds3, p3, q3, rfl, rfl, rfl, h3, rr3⟩ := trodAll_cons rr2
  obtain ⟨rfl, rfl, rfl⟩ := trodAll_nil rr3
  obtain rfl : args = #[v0, v1, v2, v3] := by cases args; simp_all
  obtain ⟨rfl, rfl⟩ := trodVars_none hV
  have t0 := h0
  have lt0 : ∀ x ∈ p0, x.block < W.heap.size := by obtain ⟨m, hm⟩ := t0; exact DataW.trod_lt m _ _ _ hm
  obtain ⟨a0, l0, c0, z0, rfl, k0, m0, r0, f0, u0, s0⟩ := openInts (hval 0 22 v0 rfl rfl) h0
  have t1 := h1
  have lt1 : ∀ x ∈ p1, x.block < W.heap.size := by obtain ⟨m, hm⟩ := t1; exact DataW.trod_lt m _ _ _ hm
  obtain ⟨a1, rfl, hd1, hp1, f1⟩ := open_int Try.underlying3 (hval 1 3 v1 rfl rfl) h1
  have u1 := bulk_one d1
  have t2 := h2
  have lt2 : ∀ x ∈ p2, x.block < W.heap.size := by obtain ⟨m, hm⟩ := t2; exact DataW.trod_lt m _ _ _ hm
  obtain ⟨a2, rfl, hd2, hp2, f2⟩ := open_int Try.underlying3 (hval 2 3 v2 rfl rfl) h2
  have u2 := bulk_one d2
  have t3 := h3
  have lt3 : ∀ x ∈ p3, x.block < W.heap.size := by obtain ⟨m, hm⟩ := t3; exact DataW.trod_lt m _ _ _ hm
  obtain ⟨a3, rfl, hd3, hp3, f3⟩ := open_int Try.underlying3 (hval 3 3 v3 rfl rfl) h3
  have u3 := bulk_one d3
  simp only [List.cons_append, List.nil_append, List.append_nil, Rows.uptoBulkAll] at hk
  have bu : l0 ≤ 1048576 := by omega
  refine (walk a0 l0 c0 z0 a1 a2 a3 W k0 m0 r0 f0 f1 f2 f3 bu).mono fun e W' ⟨he, bel⟩ => ?_
  subst he
  exact ⟨_, rfl, _, _, _, [], _, [], hW', trodAll_mk1 (shut_bool Try.underlying4 _), (trodAll_cons_mk (Below.trod laidOut (by kernel_rfl) (of_decide_eq_true (by kernel_rfl)) t0 bel lt0) (trodAll_cons_mk (Below.trod laidOut (by kernel_rfl) (of_decide_eq_true (by kernel_rfl)) t1 bel lt1) (trodAll_cons_mk (Below.trod laidOut (by kernel_rfl) (of_decide_eq_true (by kernel_rfl)) t2 bel lt2) (trodAll_cons_mk (Below.trod laidOut (by kernel_rfl) (of_decide_eq_true (by kernel_rfl)) t3 bel lt3) trodAll_mk0)))), rfl, bel.frame _, fun h => by cases h⟩

theorem over : Rows.fnChunkWriteUptoRow.holds Try.pinned (Rows.OpenSpec.upto Rows.fnChunkWriteSpec) :=
  OpenClaim.holds_of_cond 6 Try.f6 rfl rfl rfl rfl rfl rfl rfl ⟨rfl, rfl, rfl, rfl, rfl⟩ rfl rfl rfl rfl rfl (by kernel_rfl) Try.func6 (by kernel_rfl)
    (of_decide_eq_true (by kernel_rfl)) (by unfold Func.isWrapper; first | (rw [if_pos (by decide +kernel)]; kernel_rfl) | (rw [if_neg (by decide +kernel)]; exact ⟨rfl, rfl⟩))
    (fun os started H enc _ F => lifted os started H enc F)

/-- the given statement -/
theorem proved : Rows.FnChunkWriteUptoSaid := over
#print axioms proved
end Go.Proofs.Ytiihcdoemgmjbaa.fnChunkWrite
