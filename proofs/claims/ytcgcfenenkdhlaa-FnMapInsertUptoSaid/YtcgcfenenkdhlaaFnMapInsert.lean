/-
  FnMapInsert: the law returns true at every input of at most 1048576 values, and changes nothing that was there.
-/
import Derived.ProofKit
import Derived.OpenShut
import Derived.JoinedCond
import Derived.Deep.CondSized
import Derived.SizedLaws
import Derived.WalkKit
import Derived.WalkLawsBesides
import Derived.Outline
import Derived.Deep.DeepMust
import Derived.Test.YtcgcfenenkdhlaaOpen
import Derived.Test.YtcgcfenenkdhlaaOpenE
import Derived.Test.YtcgcfenenkdhlaaMapC
import Derived.Test.YtcgcfenenkdhlaaEqE
namespace Go.Proofs.Ytcgcfenenkdhlaa.fnMapInsert
open Go.ChangeShapes Go.WideShapes Go.ChangeAt Go.RowKit
set_option linter.unusedVariables false
set_option linter.unusedSimpArgs false

set_option maxRecDepth 100000 in
set_option maxHeartbeats 4000000 in
theorem walk (a0 : Option Addr) (l0 c0 : Nat) (z0 : List (Int × Int)) (a1 : Option Addr) (l1 c1 : Nat) (z1 : List (Int × Int)) (w : World) (k0 : l0 ≤ c0) (m0 : c0 ≤ maxLen) (r0 : Rd w w.heap.size 2 a0 l0 (pairs z0)) (f0 : ∀ x ∈ z0, (Lit.int .i64 x.1).wf = true ∧ (Lit.int .i64 x.2).wf = true) (k1 : l1 ≤ c1) (m1 : c1 ≤ maxLen) (r1 : Rd w w.heap.size 2 a1 l1 (pairs z1)) (f1 : ∀ x ∈ z1, (Lit.int .i64 x.1).wf = true ∧ (Lit.int .i64 x.2).wf = true) (bu : l0 + l1 ≤ 1048576) :
    Calls Try.prog 10 #[.slice a0 l0 c0, .slice a1 l1 c1] w fun e w' => e = .returned (.bool true) ∧ Below w.heap.size w w' := by
  have hz0 : z0.length = l0 := by have := r0.1; rw [pairs_length] at this; omega
  have hz1 : z1.length = l1 := by have := r1.1; rw [pairs_length] at this; omega
  have HSZ : Hid (Maps.size (mpFrom (mp z0) z1) * 16 ≤ 140737488351232) := hide (by have := size_mp2 z0 z1; omega)
  clear hz0 hz1
  go_enter Try.func10, Try.ntmps10
  go_wp2_with fail
  refine (lawsDifferent a1 l1 c1 z1 w r1 (by omega)).mono ?_
  rintro e w0 ⟨b, rfl, g0⟩
  have hs0 := g0.size
  cases b with
  | false =>
    go_wp2
    go_ret
    exact ⟨rfl, g0⟩
  | true =>
    have q0 := (r0.below g0).more hs0
    have q1 := (r1.below g0).more hs0
    go_wp2_with fail
    refine (implMapInsert a0 l0 c0 z0 a1 l1 c1 z1 (by omega) (by omega) f0 f1 HSZ.out w0 q0 q1).mono ?_
    rintro e w1 ⟨A1, m1, d1, ts, rfl, own1, htab1, hpl, hml, g1⟩
    have hs1 := g1.size
    have HT1 := hide htab1
    have HPL := hide hpl
    clear htab1 hpl
    go_wp2_with fail
    refine (joinedE a0 l0 c0 z0 a1 l1 c1 z1 (by omega) w1 ((q0.below g1).more hs1) ((q1.below g1).more hs1)).mono ?_
    rintro e w2 ⟨A2, d2, rfl, own2, g2⟩
    have hs2 := g2.size
    go_wp2_with fail
    refine (lawsTable A2 (l0 + l1) d2 (z0 ++ z1) w2 (Rd.of_own own2) (by omega)).mono ?_
    rintro e w3 ⟨A3, d3, t, rfl, own3, htab, htl, g3⟩
    have hs3 := g3.size
    rw [HT1.out.unique htab] at own1
    clear htab
    go_wp2_with fail
    refine (equalE _ _ _ _ _ _ _ _ _ _ w3 ((Rd.of_own own1).below (g2.trans (g3.mono hs2))) (Rd.of_own own3) (by omega)).mono ?_
    rintro e w4 ⟨rfl, hd⟩
    go_wp2
    go_ret
    exact ⟨by simp, g0.trans ((g1.trans ((g2.mono hs1).trans ((g3.mono (by omega)).trans (hd.below _)))).mono hs0)⟩

set_option maxRecDepth 100000 in
theorem lifted (os : Os) (started : os.Started) (H : Type) (enc : TypeId × Value → H) (F : Stop.Interp) :
    ReturnsInHanded {} Try.checked os 10 .any ((Rows.OpenSpec.upto Rows.fnMapInsertSpec).pre6 enc Try.prog Try.f10 Rows.fnMapInsertUptoRow.domain false) (((Rows.OpenSpec.upto Rows.fnMapInsertSpec).at F).post enc Try.prog Try.f10 false true false false) := by
  refine returnsInHanded_of_cond (C := Try.checked) (s := (Rows.OpenSpec.upto Rows.fnMapInsertSpec)) (k := Rows.uptoSmall) rfl own started (by kernel_rfl) Try.func10
    (OpenSpec.witness (enc := enc) (C := Try.checked) (s := (Rows.OpenSpec.upto Rows.fnMapInsertSpec)) (k := Rows.uptoSmall) rfl false ⟨#[], #[.slice none 0 0, .slice none 0 0], []⟩ 8 (by kernel_rfl) (by kernel_rfl) (by kernel_rfl)
      (x := ([.nil, .nil], [], [])) (by kernel_rfl) rfl (by kernel_rfl)) ?_
  intro W base args ds gs before hval0 hW _ hk0 _
  have hk := bulk_bound hk0
  have hval : ∀ (j : Nat) t v, Try.f10.params[j]? = some t → args[j]? = some v → Value.okWide Try.prog W .any base t v := hval0
  have hW' := hW
  obtain ⟨p, q, hA0, hV, rfl, hfz, hnd⟩ := hW
  have hA : DataW.TrodAll enc Try.prog W 0 (fun _ => true) true Try.f10.params.toList args.toList ds p := hA0
  rw [Try.params10] at hA hval
  obtain ⟨v0, vs0, d0, ds0, p0, q0, hargs, rfl, rfl, h0, rr0⟩ := trodAll_cons hA
  obtain ⟨v1, vs1, d1, ds1, p1, q1, rfl, rfl, rfl, h1, rr1⟩ := trodAll_cons rr0
  obtain ⟨rfl, rfl, rfl⟩ := trodAll_nil rr1
  obtain rfl : args = #[v0, v1] := by cases args; simp_all
  obtain ⟨rfl, rfl⟩ := trodVars_none hV
  have t0 := h0
  have lt0 : ∀ x ∈ p0, x.block < W.heap.size := by obtain ⟨m, hm⟩ := t0; exact DataW.trod_lt m _ _ _ hm
  obtain ⟨a0, l0, c0, z0, rfl, k0, m0, r0, f0, u0, s0⟩ := openPairs (hval 0 22 v0 rfl rfl) h0
  have t1 := h1
  have lt1 : ∀ x ∈ p1, x.block < W.heap.size := by obtain ⟨m, hm⟩ := t1; exact DataW.trod_lt m _ _ _ hm
  obtain ⟨a1, l1, c1, z1, rfl, k1, m1, r1, f1, u1, s1⟩ := openPairs (hval 1 22 v1 rfl rfl) h1
  simp only [List.cons_append, List.nil_append, List.append_nil, Rows.uptoBulkAll] at hk
  have bu : l0 + l1 ≤ 1048576 := by omega
  refine (walk a0 l0 c0 z0 a1 l1 c1 z1 W k0 m0 r0 f0 k1 m1 r1 f1 bu).mono fun e W' ⟨he, bel⟩ => ?_
  subst he
  exact ⟨_, rfl, _, _, _, [], _, [], hW', trodAll_mk1 (shut_bool Try.underlying4 _), (trodAll_cons_mk (Below.trod laidOut (by kernel_rfl) (of_decide_eq_true (by kernel_rfl)) t0 bel lt0) (trodAll_cons_mk (Below.trod laidOut (by kernel_rfl) (of_decide_eq_true (by kernel_rfl)) t1 bel lt1) trodAll_mk0)), rfl, bel.frame _, fun h => by cases h⟩

theorem over : Rows.fnMapInsertUptoRow.holds Try.pinned (Rows.OpenSpec.upto Rows.fnMapInsertSpec) :=
  OpenClaim.holds_of_cond 10 Try.f10 rfl rfl rfl rfl rfl rfl rfl ⟨rfl, rfl, rfl, rfl, rfl⟩ rfl rfl rfl rfl rfl (by kernel_rfl) Try.func10 (by kernel_rfl)
    (of_decide_eq_true (by kernel_rfl)) (by unfold Func.isWrapper; first | (rw [if_pos (by decide +kernel)]; kernel_rfl) | (rw [if_neg (by decide +kernel)]; exact ⟨rfl, rfl⟩))
    (fun os started H enc _ F => lifted os started H enc F)

/-- the given statement -/
theorem proved : Rows.FnMapInsertUptoSaid := over
#print axioms proved
end Go.Proofs.Ytcgcfenenkdhlaa.fnMapInsert
