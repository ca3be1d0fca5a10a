/-
  FnAppendCollect: the law returns true at every input of at most 1048576 values, and changes nothing that was there.
-/
import Derived.ProofKit
import Derived.OpenShut
import Derived.JoinedCond
import Derived.Deep.CondSized
import Derived.SizedLaws
import Derived.WalkKit
import Derived.WalkLawsBesides
import Derived.Outline
import Derived.Deep.DeepMust
import Derived.Test.YtbgkchjephioiaaOpen
import Derived.Test.YtbgkchjephioiaaImpA
import Derived.Test.YtbgkchjephioiaaSpecA
import Derived.Test.YtbgkchjephioiaaSpec
import Derived.Test.YtbgkchjephioiaaCon
namespace Go.Proofs.Ytbgkchjephioiaa.fnAppendCollect
open Go.ChangeShapes Go.WideShapes Go.ChangeAt Go.RowKit
set_option linter.unusedVariables false
set_option linter.unusedSimpArgs false

theorem rows2 {w : World} {B : Nat} {r1 r2 : Option Addr × Nat × Nat} {z1 z2 : List Int} (h1 : Rd w B 1 r1.1 r1.2.1 (ints z1)) (h2 : Rd w B 1 r2.1 r2.2.1 (ints z2)) : RowsRd w B [r1, r2] [z1, z2] := by
  refine ⟨rfl, fun i r z hr hz => ?_⟩
  match i, hr, hz with
  | 0, hr, hz => simp at hr hz; subst hr; subst hz; exact h1
  | 1, hr, hz => simp at hr hz; subst hr; subst hz; exact h2
set_option maxRecDepth 100000 in
set_option maxHeartbeats 4000000 in
theorem walk (a0 : Option Addr) (l0 c0 : Nat) (z0 : List Int) (a1 : Option Addr) (l1 c1 : Nat) (z1 : List Int) (w : World) (k0 : l0 ≤ c0) (m0 : c0 ≤ maxLen) (r0 : Rd w w.heap.size 1 a0 l0 (ints z0)) (f0 : ∀ x ∈ z0, (Lit.int .i64 x).wf = true) (k1 : l1 ≤ c1) (m1 : c1 ≤ maxLen) (r1 : Rd w w.heap.size 1 a1 l1 (ints z1)) (f1 : ∀ x ∈ z1, (Lit.int .i64 x).wf = true) (bu : l0 + l1 ≤ 1048576) :
    Calls Try.prog 16 #[.slice a0 l0 c0, .slice a1 l1 c1] w fun e w' => e = .returned (.bool true) ∧ Below w.heap.size w w' := by
  have hz0 : z0.length = l0 := by have := r0.1; simpa using this
  have hz1 : z1.length = l1 := by have := r1.1; simpa using this
  have hb1 : 0 + l1 ≤ 4194304 := by omega
  have hb2 : l0 + l1 ≤ 4194304 := by omega
  have hb3 : l1 * 8 ≤ 140737488351232 := by omega
  have hb4 : (l0 + l1) * 8 ≤ 140737488351232 := by omega
  have hb5 : l1 ≤ 9223372036854775807 := by omega
  have hb6 : l0 + l1 ≤ 9223372036854775807 := by omega
  obtain ⟨F, hF⟩ : ∃ F, flagOf true (0 + l1) = F := ⟨_, rfl⟩
  have e1 := implAppendSeq none 0 0 [] 0 true a1 l1 c1 z1 hb1 w Rd.zero r1
  rw [hF] at e1
  simp only [Nat.zero_add, List.nil_append] at e1
  have e2 := fun w r => implCollect a1 l1 c1 z1 hb3 w r
  rw [hz1, show decide (z1 = []) = F by rw [← hF, flagOf]; cases z1 <;> simp at hz1 ⊢ <;> omega] at e2
  have hfl : ([z0, z1] : List (List Int)).flatten = z0 ++ z1 := by simp
  have hln : (z0 ++ z1).length = l0 + l1 := by simp [hz0, hz1]
  have C1 := hide e1
  have C2 := hide e2
  have HF := hide hfl
  have HL := hide hln
  have hFF : (F == F) = true := by simp
  have h11 : ((l1 : Int) == (l1 : Int)) = true := by simp
  have h22 : ((l0 : Int) + (l1 : Int) == (l0 : Int) + (l1 : Int)) = true := by simp
  clear e1 e2 hF hz0 hz1 bu hfl hln
  go_enter Try.func16, Try.ntmps16
  go_wp2_with fail
  refine (unhide C1).mono ?_
  rintro e w1 ⟨A1, d1, rfl, own1, g1⟩
  have hs1 := g1.size
  go_wp2_with fail
  refine ((unhide C2) w1 ((r1.below g1).more hs1)).mono ?_
  rintro e w2 ⟨A2, d2, rfl, own2, g2⟩
  have hs2 := g2.size
  have g02 : Below w.heap.size w w2 := g1.trans (g2.mono hs1)
  have hs02 := g02.size
  go_wp2_with fail
  refine (implAppendSeq a0 l0 c0 z0 0 false a1 l1 _ z1 hb2 w2 ((r0.below g02).more hs02) ((r1.below g02).more hs02)).mono ?_
  rintro e w3 ⟨A3, d3, rfl, own3, g3⟩
  have hs3 := g3.size
  have g03 : Below w.heap.size w w3 := g02.trans (g3.mono hs02)
  have hs03 := g03.size
  obtain ⟨w4, hw4⟩ : ∃ w4, w4 = w3.alloc (.cells #[.slice a0 l0 c0, .slice a1 l1 c1] 22) := ⟨_, rfl⟩
  have hw4s : w4.heap.size = w3.heap.size + 1 := by rw [hw4]; simp
  have rf : Rd w4 w4.heap.size 1 (some ⟨w3.heap.size, 0, none⟩) 2 (rows [(a0, l0, c0), (a1, l1, c1)]) := by
    rw [hw4s, hw4]; exact Rd.fresh w3 [_, _] _ 2 rfl
  have g34 : Below w3.heap.size w3 w4 := by rw [hw4]; exact (Below.refl _ _).alloc (Nat.le_refl _) _
  have hs4 := g34.size
  have g04 : Below w.heap.size w w4 := g03.trans (g34.mono hs03)
  have hs04 := g04.size
  have qf : RowsRd w4 w4.heap.size [(a0, l0, c0), (a1, l1, c1)] [z0, z1] := rows2 ((r0.below g04).more hs04) ((r1.below g04).more hs04)
  clear hw4s
  go_wp2_with fail
  rw [← hw4]
  clear hw4
  refine (implConcatN _ _ _ _ [z0, z1] (z0 ++ z1) (l0 + l1) HF.out HL.out (by decide) hb4 w4 rf qf).mono ?_
  rintro e w5 ⟨A5, d5, f5, rfl, own5, g5⟩
  have hs5 := g5.size
  have x1 : Rd w5 w1.heap.size 1 A1 l1 (ints z1) := (((Rd.of_own own1).below g2).below (g3.mono hs2)).below (g34.mono (by omega)) |>.below (g5.mono (by omega))
  have x2 : Rd w5 w2.heap.size 1 A2 l1 (ints z1) := (((Rd.of_own own2).below g3).below (g34.mono (by omega))).below (g5.mono (by omega))
  have x3 : Rd w5 w3.heap.size 1 A3 (l0 + l1) (ints (z0 ++ z1)) := ((Rd.of_own own3).below g34).below (g5.mono (by omega))
  have x5 : Rd w5 w5.heap.size 1 A5 (l0 + l1) (ints (z0 ++ z1)) := Rd.of_own own5
  have g05 : Below w.heap.size w w5 := g04.trans (g5.mono hs04)
  clear rf qf own1 own2 own3 own5 g1 g2 g3 g34 g5
  go_wp2_with fail
  refine (equalIntT _ _ _ _ _ _ _ _ _ w5 x1 x2 hb5).mono ?_
  rintro e w6 ⟨rfl, hd⟩
  go_wp2_with fail
  refine (equalIntT _ _ _ _ _ _ _ _ _ w6 (x3.ofDrew hd) (x5.ofDrew hd) hb6).mono ?_
  rintro e w7 ⟨rfl, hd7⟩
  go_wp2
  go_ret
  exact ⟨by simp, (g05.trans (hd.below _)).trans (hd7.below _)⟩

set_option maxRecDepth 100000 in
theorem lifted (os : Os) (started : os.Started) (H : Type) (enc : TypeId × Value → H) (F : Stop.Interp) :
    ReturnsInHanded {} Try.checked os 16 .any ((Rows.OpenSpec.upto Rows.fnAppendCollectSpec).pre6 enc Try.prog Try.f16 Rows.fnAppendCollectUptoRow.domain false) (((Rows.OpenSpec.upto Rows.fnAppendCollectSpec).at F).post enc Try.prog Try.f16 false true false false) := by
  refine returnsInHanded_of_cond (C := Try.checked) (s := (Rows.OpenSpec.upto Rows.fnAppendCollectSpec)) (k := Rows.uptoSmall) rfl own started (by kernel_rfl) Try.func16
    (OpenSpec.witness (enc := enc) (C := Try.checked) (s := (Rows.OpenSpec.upto Rows.fnAppendCollectSpec)) (k := Rows.uptoSmall) rfl false ⟨#[], #[.slice none 0 0, .slice none 0 0], []⟩ 8 (by kernel_rfl) (by kernel_rfl) (by kernel_rfl)
      (x := ([.nil, .nil], [], [])) (by kernel_rfl) rfl (by kernel_rfl)) ?_
  intro W base args ds gs before hval0 hW _ hk0 _
  have hk := bulk_bound hk0
  have hval : ∀ (j : Nat) t v, Try.f16.params[j]? = some t → args[j]? = some v → Value.okWide Try.prog W .any base t v := hval0
  have hW' := hW
  obtain ⟨p, q, hA0, hV, rfl, hfz, hnd⟩ := hW
  have hA : DataW.TrodAll enc Try.prog W 0 (fun _ => true) true Try.f16.params.toList args.toList ds p := hA0
  rw [Try.params16] at hA hval
  obtain ⟨v0, vs0, d0, ds0, p0, q0, hargs, rfl, rfl, h0, rr0⟩ := trodAll_cons hA
  obtain ⟨v1, vs1, d1, ds1, p1, q1, rfl, rfl, rfl, h1, rr1⟩ := trodAll_cons rr0
  obtain ⟨rfl, rfl, rfl⟩ := trodAll_nil rr1
  obtain rfl : args = #[v0, v1] := by cases args; simp_all
  obtain ⟨rfl, rfl⟩ := trodVars_none hV
  have t0 := h0
  have lt0 : ∀ x ∈ p0, x.block < W.heap.size := by obtain ⟨m, hm⟩ := t0; exact DataW.trod_lt m _ _ _ hm
  obtain ⟨a0, l0, c0, z0, rfl, k0, m0, r0, f0, u0, s0⟩ := openInts (hval 0 22 v0 rfl rfl) h0
  have t1 := h1
  have lt1 : ∀ x ∈ p1, x.block < W.heap.size := by obtain ⟨m, hm⟩ := t1; exact DataW.trod_lt m _ _ _ hm
  obtain ⟨a1, l1, c1, z1, rfl, k1, m1, r1, f1, u1, s1⟩ := openInts (hval 1 22 v1 rfl rfl) h1
  simp only [List.cons_append, List.nil_append, List.append_nil, Rows.uptoBulkAll] at hk
  have bu : l0 + l1 ≤ 1048576 := by omega
  refine (walk a0 l0 c0 z0 a1 l1 c1 z1 W k0 m0 r0 f0 k1 m1 r1 f1 bu).mono fun e W' ⟨he, bel⟩ => ?_
  subst he
  exact ⟨_, rfl, _, _, _, [], _, [], hW', trodAll_mk1 (shut_bool Try.underlying4 _), (trodAll_cons_mk (Below.trod laidOut (by kernel_rfl) (of_decide_eq_true (by kernel_rfl)) t0 bel lt0) (trodAll_cons_mk (Below.trod laidOut (by kernel_rfl) (of_decide_eq_true (by kernel_rfl)) t1 bel lt1) trodAll_mk0)), rfl, bel.frame _, fun h => by cases h⟩

theorem over : Rows.fnAppendCollectUptoRow.holds Try.pinned (Rows.OpenSpec.upto Rows.fnAppendCollectSpec) :=
  OpenClaim.holds_of_cond 16 Try.f16 rfl rfl rfl rfl rfl rfl rfl ⟨rfl, rfl, rfl, rfl, rfl⟩ rfl rfl rfl rfl rfl (by kernel_rfl) Try.func16 (by kernel_rfl)
    (of_decide_eq_true (by kernel_rfl)) (by unfold Func.isWrapper; first | (rw [if_pos (by decide +kernel)]; kernel_rfl) | (rw [if_neg (by decide +kernel)]; exact ⟨rfl, rfl⟩))
    (fun os started H enc _ F => lifted os started H enc F)

/-- the given statement -/
theorem proved : Rows.FnAppendCollectUptoSaid := over
#print axioms proved
end Go.Proofs.Ytbgkchjephioiaa.fnAppendCollect
