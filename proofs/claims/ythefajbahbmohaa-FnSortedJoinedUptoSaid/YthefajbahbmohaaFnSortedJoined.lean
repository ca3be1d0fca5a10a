/-
  FnSortedJoined: the law returns true at every input of at most 1048576 values, and changes nothing that was there.
-/
import Derived.ProofKit
import Derived.OpenShut
import Derived.JoinedCond
import Derived.Deep.CondSized
import Derived.SizedLaws
import Derived.WalkKit
import Derived.WalkLawsBesides
import Derived.Outline
import Derived.Deep.DeepMust
import Derived.Test.YthefajbahbmohaaOpen
import Derived.Test.YthefajbahbmohaaSortI
import Derived.Test.YthefajbahbmohaaSpec
import Derived.Test.YthefajbahbmohaaJoin
namespace Go.Proofs.Ythefajbahbmohaa.fnSortedJoined
open Go.ChangeShapes Go.WideShapes Go.ChangeAt Go.RowKit
set_option linter.unusedVariables false
set_option linter.unusedSimpArgs false

theorem joined_srt (xs ys : List Int) : srt (srt ys ++ srt xs) = srt (xs ++ ys) :=
  srt_congr (((srt_perm ys).append (srt_perm xs)).trans List.perm_append_comm)
set_option maxRecDepth 100000 in
set_option maxHeartbeats 4000000 in
theorem walk (a0 : Option Addr) (l0 c0 : Nat) (z0 : List Int) (a1 : Option Addr) (l1 c1 : Nat) (z1 : List Int) (w : World) (k0 : l0 ≤ c0) (m0 : c0 ≤ maxLen) (r0 : Rd w w.heap.size 1 a0 l0 (ints z0)) (f0 : ∀ x ∈ z0, (Lit.int .i64 x).wf = true) (k1 : l1 ≤ c1) (m1 : c1 ≤ maxLen) (r1 : Rd w w.heap.size 1 a1 l1 (ints z1)) (f1 : ∀ x ∈ z1, (Lit.int .i64 x).wf = true) (bu : l0 + l1 ≤ 1048576) :
    Calls Try.prog 6 #[.slice a0 l0 c0, .slice a1 l1 c1] w fun e w' => e = .returned (.bool true) ∧ Below w.heap.size w w' := by
  have hb0 : l0 * 8 ≤ 140737488351232 := by omega
  have hb1 : l1 * 8 ≤ 140737488351232 := by omega
  have hb2 : (l0 + l1) * 8 ≤ 140737488351232 := by omega
  have hb3 : (l1 + l0) * 8 ≤ 140737488351232 := by omega
  have hb4 : l0 + l1 ≤ 9223372036854775807 := by omega
  have hll : ((l0 : Int) + (l1 : Int) == (l0 : Int) + (l1 : Int)) = true := by simp
  clear bu
  go_enter Try.func6, Try.ntmps6
  go_wp2_with fail
  refine (implSorted a0 l0 c0 z0 hb0 w r0).mono ?_
  rintro e w1 ⟨A1, d1, rfl, own1, g1⟩
  have hs1 := g1.size
  go_wp2_with fail
  refine (implSorted a1 l1 c1 z1 hb1 w1 ((r1.below g1).more hs1)).mono ?_
  rintro e w2 ⟨A2, d2, rfl, own2, g2⟩
  have hs2 := g2.size
  have g02 : Below w.heap.size w w2 := g1.trans (g2.mono hs1)
  have hs02 := g02.size
  go_wp2_with fail
  refine (joinedInt a0 l0 c0 z0 a1 l1 c1 z1 hb2 w2 ((r0.below g02).more hs02) ((r1.below g02).more hs02)).mono ?_
  rintro e w3 ⟨A3, d3, rfl, own3, g3⟩
  have hs3 := g3.size
  have g03 : Below w.heap.size w w3 := g02.trans (g3.mono hs02)
  have hs03 := g03.size
  go_wp2_with fail
  refine (implSorted A3 (l0 + l1) d3 (z0 ++ z1) hb2 w3 (Rd.of_own own3)).mono ?_
  rintro e w4 ⟨A4, d4, rfl, own4, g4⟩
  have hs4 := g4.size
  have g24 : Below w2.heap.size w2 w4 := g3.trans (g4.mono hs3)
  have g04 : Below w.heap.size w w4 := g03.trans (g4.mono hs03)
  have hs04 := g04.size
  have hs24 := g24.size
  have q1 : Rd w4 w4.heap.size 1 A1 l0 (ints (srt z0)) := (((Rd.of_own own1).below g2).below (g24.mono hs2)).more (by omega)
  have q2 : Rd w4 w4.heap.size 1 A2 l1 (ints (srt z1)) := ((Rd.of_own own2).below g24).more hs24
  go_wp2_with fail
  refine (joinedInt A2 l1 d2 (srt z1) A1 l0 d1 (srt z0) hb3 w4 q2 q1).mono ?_
  rintro e w5 ⟨A5, d5, rfl, own5, g5⟩
  have hs5 := g5.size
  have g05 : Below w.heap.size w w5 := g04.trans (g5.mono hs04)
  have hs05 := g05.size
  go_wp2_with fail
  refine (implSorted A5 (l1 + l0) d5 (srt z1 ++ srt z0) hb3 w5 (Rd.of_own own5)).mono ?_
  rintro e w6 ⟨A6, d6, rfl, own6, g6⟩
  rw [joined_srt] at own6
  have q4 : Rd w6 w4.heap.size 1 A4 (l0 + l1) (ints (srt (z0 ++ z1))) := ((Rd.of_own own4).below g5).below (g6.mono hs5)
  have q6 := Rd.of_own own6
  go_wp2_with fail
  refine (equalIntT _ _ _ _ _ _ _ _ _ w6 q4 q6 hb4).mono ?_
  rintro e w7 ⟨rfl, hd⟩
  go_wp2_with fail
  go_ret
  exact ⟨by simp, (g05.trans (g6.mono hs05)).trans (hd.below _)⟩

set_option maxRecDepth 100000 in
theorem lifted (os : Os) (started : os.Started) (H : Type) (enc : TypeId × Value → H) (F : Stop.Interp) :
    ReturnsInHanded {} Try.checked os 6 .any ((Rows.OpenSpec.upto Rows.fnSortedJoinedSpec).pre6 enc Try.prog Try.f6 Rows.fnSortedJoinedUptoRow.domain false) (((Rows.OpenSpec.upto Rows.fnSortedJoinedSpec).at F).post enc Try.prog Try.f6 false true false false) := by
  refine returnsInHanded_of_cond (C := Try.checked) (s := (Rows.OpenSpec.upto Rows.fnSortedJoinedSpec)) (k := Rows.uptoSmall) rfl own started (by kernel_rfl) Try.func6
    (OpenSpec.witness (enc := enc) (C := Try.checked) (s := (Rows.OpenSpec.upto Rows.fnSortedJoinedSpec)) (k := Rows.uptoSmall) rfl false ⟨#[], #[.slice none 0 0, .slice none 0 0], []⟩ 8 (by kernel_rfl) (by kernel_rfl) (by kernel_rfl)
      (x := ([.nil, .nil], [], [])) (by kernel_rfl) rfl (by kernel_rfl)) ?_
  intro W base args ds gs before hval0 hW _ hk0 _
  have hk := bulk_bound hk0
  have hval : ∀ (j : Nat) t v, Try.f6.params[j]? = some t → args[j]? = some v → Value.okWide Try.prog W .any base t v := hval0
  have hW' := hW
  obtain ⟨p, q, hA0, hV, rfl, hfz, hnd⟩ := hW
  have hA : DataW.TrodAll enc Try.prog W 0 (fun _ => true) true Try.f6.params.toList args.toList ds p := hA0
  rw [Try.params6] at hA hval
  obtain ⟨v0, vs0, d0, ds0, p0, q0, hargs, rfl, rfl, h0, rr0⟩ := trodAll_cons hA
  obtain ⟨v1, vs1, d1, ds1, p1, q1, rfl, rfl, rfl, h1, rr1⟩ := trodAll_cons rr0
  obtain ⟨rfl, rfl, rfl⟩ := trodAll_nil rr1
  obtain rfl : args = #[v0, v1] := by cases args; simp_all
  obtain ⟨rfl, rfl⟩ := trodVars_none hV
  have t0 := h0
  have lt0 : ∀ x ∈ p0, x.block < W.heap.size := by obtain ⟨m, hm⟩ := t0; exact DataW.trod_lt m _ _ _ hm
  obtain ⟨a0, l0, c0, z0, rfl, k0, m0, r0, f0, u0, s0⟩ := openInts (hval 0 22 v0 rfl rfl) h0
  have t1 := h1
  have lt1 : ∀ x ∈ p1, x.block < W.heap.size := by obtain ⟨m, hm⟩ := t1; exact DataW.trod_lt m _ _ _ hm
  obtain ⟨a1, l1, c1, z1, rfl, k1, m1, r1, f1, u1, s1⟩ := openInts (hval 1 22 v1 rfl rfl) h1
  simp only [List.cons_append, List.nil_append, List.append_nil, Rows.uptoBulkAll] at hk
  have bu : l0 + l1 ≤ 1048576 := by omega
  refine (walk a0 l0 c0 z0 a1 l1 c1 z1 W k0 m0 r0 f0 k1 m1 r1 f1 bu).mono fun e W' ⟨he, bel⟩ => ?_
  subst he
  exact ⟨_, rfl, _, _, _, [], _, [], hW', trodAll_mk1 (shut_bool Try.underlying4 _), (trodAll_cons_mk (Below.trod laidOut (by kernel_rfl) (of_decide_eq_true (by kernel_rfl)) t0 bel lt0) (trodAll_cons_mk (Below.trod laidOut (by kernel_rfl) (of_decide_eq_true (by kernel_rfl)) t1 bel lt1) trodAll_mk0)), rfl, bel.frame _, fun h => by cases h⟩

theorem over : Rows.fnSortedJoinedUptoRow.holds Try.pinned (Rows.OpenSpec.upto Rows.fnSortedJoinedSpec) :=
  OpenClaim.holds_of_cond 6 Try.f6 rfl rfl rfl rfl rfl rfl rfl ⟨rfl, rfl, rfl, rfl, rfl⟩ rfl rfl rfl rfl rfl (by kernel_rfl) Try.func6 (by kernel_rfl)
    (of_decide_eq_true (by kernel_rfl)) (by unfold Func.isWrapper; first | (rw [if_pos (by decide +kernel)]; kernel_rfl) | (rw [if_neg (by decide +kernel)]; exact ⟨rfl, rfl⟩))
    (fun os started H enc _ F => lifted os started H enc F)

/-- the given statement -/
theorem proved : Rows.FnSortedJoinedUptoSaid := over
#print axioms proved
end Go.Proofs.Ythefajbahbmohaa.fnSortedJoined
