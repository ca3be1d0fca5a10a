/-
  FnAppendTwice: the law returns true at every input of at most 1048576 values, and changes nothing that was there.
-/
import Derived.ProofKit
import Derived.OpenShut
import Derived.JoinedCond
import Derived.Deep.CondSized
import Derived.SizedLaws
import Derived.WalkKit
import Derived.WalkLawsBesides
import Derived.Outline
import Derived.Deep.DeepMust
import Derived.Test.YtbgkchjephioiaaOpen
import Derived.Test.YtbgkchjephioiaaImpA
import Derived.Test.YtbgkchjephioiaaSpecA
import Derived.Test.YtbgkchjephioiaaSpec
namespace Go.Proofs.Ytbgkchjephioiaa.fnAppendTwice
open Go.ChangeShapes Go.WideShapes Go.ChangeAt Go.RowKit
set_option linter.unusedVariables false
set_option linter.unusedSimpArgs false

set_option maxRecDepth 100000 in
set_option maxHeartbeats 4000000 in
theorem walk (a0 : Option Addr) (l0 c0 : Nat) (z0 : List Int) (a1 : Int) (a2 : Option Addr) (l2 c2 : Nat) (z2 : List Int) (a3 : Option Addr) (l3 c3 : Nat) (z3 : List Int) (w : World) (k0 : l0 ≤ c0) (m0 : c0 ≤ maxLen) (r0 : Rd w w.heap.size 1 a0 l0 (ints z0)) (f0 : ∀ x ∈ z0, (Lit.int .i64 x).wf = true) (f1 : (Lit.int .i64 a1).wf = true) (k2 : l2 ≤ c2) (m2 : c2 ≤ maxLen) (r2 : Rd w w.heap.size 1 a2 l2 (ints z2)) (f2 : ∀ x ∈ z2, (Lit.int .i64 x).wf = true) (k3 : l3 ≤ c3) (m3 : c3 ≤ maxLen) (r3 : Rd w w.heap.size 1 a3 l3 (ints z3)) (f3 : ∀ x ∈ z3, (Lit.int .i64 x).wf = true) (bu : l0 + l2 + l3 ≤ 1048576) :
    Calls Try.prog 9 #[.slice a0 l0 c0, .int .i64 a1, .slice a2 l2 c2, .slice a3 l3 c3] w fun e w' => e = .returned (.bool true) ∧ Below w.heap.size w w' := by
  have hb1 : l0 + l2 ≤ 4194304 := by omega
  have hb2 : l0 + l2 + l3 ≤ 4194304 := by omega
  have hb3 : (l2 + l3) * 8 ≤ 140737488351232 := by omega
  have hb4 : l0 + (l2 + l3) ≤ 4194304 := by omega
  have hb5 : l0 + l2 + l3 ≤ 9223372036854775807 := by omega
  have hll : ((l0 : Int) + (l2 : Int) + (l3 : Int) == (l0 : Int) + (l2 : Int) + (l3 : Int)) = true := by simp
  clear bu
  go_enter Try.func9, Try.ntmps9
  go_wp2_with fail
  refine (implAppendSeq a0 l0 c0 z0 a1 false a2 l2 c2 z2 hb1 w r0 r2).mono ?_
  rintro e w1 ⟨A1, d1, rfl, own1, g1⟩
  have hs1 := g1.size
  go_wp2_with fail
  refine (implAppendSeq A1 (l0 + l2) d1 (z0 ++ z2) a1 false a3 l3 c3 z3 hb2 w1 (Rd.of_own own1) ((r3.below g1).more hs1)).mono ?_
  rintro e w2 ⟨A2, d2, rfl, own2, g2⟩
  have hs2 := g2.size
  have g02 : Below w.heap.size w w2 := g1.trans (g2.mono hs1)
  have hs02 := g02.size
  go_wp2_with fail
  refine (joinedInt a2 l2 c2 z2 a3 l3 c3 z3 hb3 w2 ((r2.below g02).more hs02) ((r3.below g02).more hs02)).mono ?_
  rintro e w3 ⟨A3, d3, rfl, own3, g3⟩
  have hs3 := g3.size
  have g03 : Below w.heap.size w w3 := g02.trans (g3.mono hs02)
  have hs03 := g03.size
  go_wp2_with fail
  refine (implAppendSeq a0 l0 c0 z0 0 false A3 (l2 + l3) d3 (z2 ++ z3) hb4 w3 ((r0.below g03).more hs03) (Rd.of_own own3)).mono ?_
  rintro e w4 ⟨A4, d4, rfl, own4, g4⟩
  have q2 : Rd w4 w2.heap.size 1 A2 (l0 + l2 + l3) (ints (z0 ++ z2 ++ z3)) := ((Rd.of_own own2).below g3).below (g4.mono hs3)
  have q4 : Rd w4 w4.heap.size 1 A4 (l0 + (l2 + l3)) (ints (z0 ++ z2 ++ z3)) := by rw [List.append_assoc]; exact Rd.of_own own4
  go_wp2_with fail
  refine (equalIntT _ _ _ _ _ _ _ _ _ w4 q2 q4 hb5).mono ?_
  rintro e w5 ⟨rfl, hd⟩
  go_wp2_with fail
  go_ret
  exact ⟨by simp, (g03.trans (g4.mono hs03)).trans (hd.below _)⟩

set_option maxRecDepth 100000 in
theorem lifted (os : Os) (started : os.Started) (H : Type) (enc : TypeId × Value → H) (F : Stop.Interp) :
    ReturnsInHanded {} Try.checked os 9 .any ((Rows.OpenSpec.upto Rows.fnAppendTwiceSpec).pre6 enc Try.prog Try.f9 Rows.fnAppendTwiceUptoRow.domain false) (((Rows.OpenSpec.upto Rows.fnAppendTwiceSpec).at F).post enc Try.prog Try.f9 false true false false) := by
  refine returnsInHanded_of_cond (C := Try.checked) (s := (Rows.OpenSpec.upto Rows.fnAppendTwiceSpec)) (k := Rows.uptoSmall) rfl own started (by kernel_rfl) Try.func9
    (OpenSpec.witness (enc := enc) (C := Try.checked) (s := (Rows.OpenSpec.upto Rows.fnAppendTwiceSpec)) (k := Rows.uptoSmall) rfl false ⟨#[], #[.slice none 0 0, .int .i64 0, .slice none 0 0, .slice none 0 0], []⟩ 8 (by kernel_rfl) (by kernel_rfl) (by kernel_rfl)
      (x := ([.nil, .lit (.int .i64 0), .nil, .nil], [], [])) (by kernel_rfl) rfl (by kernel_rfl)) ?_
  intro W base args ds gs before hval0 hW _ hk0 _
  have hk := bulk_bound hk0
  have hval : ∀ (j : Nat) t v, Try.f9.params[j]? = some t → args[j]? = some v → Value.okWide Try.prog W .any base t v := hval0
  have hW' := hW
  obtain ⟨p, q, hA0, hV, rfl, hfz, hnd⟩ := hW
  have hA : DataW.TrodAll enc Try.prog W 0 (fun _ => true) true Try.f9.params.toList args.toList ds p := hA0
  rw [Try.params9] at hA hval
  obtain ⟨v0, vs0, d0, ds0, p0, q0, hargs, rfl, rfl, h0, rr0⟩ := trodAll_cons hA
  obtain ⟨v1, vs1, d1, ds1, p1, q1, rfl, rfl, rfl, h1, rr1⟩ := trodAll_cons rr0
  obtain ⟨v2, vs2, d2, ds2, p2, q2, rfl, rfl, rfl, h2, rr2⟩ := trodAll_cons rr1
  obtain ⟨v3, vs3, d3, ds3, p3, q3, rfl, rfl, rfl, h3, rr3⟩ := trodAll_cons rr2
  obtain ⟨rfl, rfl, rfl⟩ := trodAll_nil rr3
  obtain rfl : args = #[v0, v1, v2, v3] := by cases args; simp_all
  obtain ⟨rfl, rfl⟩ := trodVars_none hV
  have t0 := h0
  have lt0 : ∀ x ∈ p0, x.block < W.heap.size := by obtain ⟨m, hm⟩ := t0; exact DataW.trod_lt m _ _ _ hm
  obtain ⟨a0, l0, c0, z0, rfl, k0, m0, r0, f0, u0, s0⟩ := openInts (hval 0 22 v0 rfl rfl) h0
  have t1 := h1
  have lt1 : ∀ x ∈ p1, x.block < W.heap.size := by obtain ⟨m, hm⟩ := t1; exact DataW.trod_lt m _ _ _ hm
  obtain ⟨a1, rfl, hd1, hp1, f1⟩ := open_int Try.underlying3 (hval 1 3 v1 rfl rfl) h1
  have u1 := bulk_one d1
  have t2 := h2
  have lt2 : ∀ x ∈ p2, x.block < W.heap.size := by obtain ⟨m, hm⟩ := t2; exact DataW.trod_lt m _ _ _ hm
  obtain ⟨a2, l2, c2, z2, rfl, k2, m2, r2, f2, u2, s2⟩ := openInts (hval 2 22 v2 rfl rfl) h2
  have t3 := h3
  have lt3 : ∀ x ∈ p3, x.block < W.heap.size := by obtain ⟨m, hm⟩ := t3; exact DataW.trod_lt m _ _ _ hm
  obtain ⟨a3, l3, c3, z3, rfl, k3, m3, r3, f3, u3, s3⟩ := openInts (hval 3 22 v3 rfl rfl) h3
  simp only [List.cons_append, List.nil_append, List.append_nil, Rows.uptoBulkAll] at hk
  have bu : l0 + l2 + l3 ≤ 1048576 := by omega
  refine (walk a0 l0 c0 z0 a1 a2 l2 c2 z2 a3 l3 c3 z3 W k0 m0 r0 f0 f1 k2 m2 r2 f2 k3 m3 r3 f3 bu).mono fun e W' ⟨he, bel⟩ => ?_
  subst he
  exact ⟨_, rfl, _, _, _, [], _, [], hW', trodAll_mk1 (shut_bool Try.underlying4 _), (trodAll_cons_mk (Below.trod laidOut (by kernel_rfl) (of_decide_eq_true (by kernel_rfl)) t0 bel lt0) (trodAll_cons_mk (Below.trod laidOut (by kernel_rfl) (of_decide_eq_true (by kernel_rfl)) t1 bel lt1) (trodAll_cons_mk (Below.trod laidOut (by kernel_rfl) (of_decide_eq_true (by kernel_rfl)) t2 bel lt2) (trodAll_cons_mk (Below.trod laidOut (by kernel_rfl) (of_decide_eq_true (by kernel_rfl)) t3 bel lt3) trodAll_mk0)))), rfl, bel.frame _, fun h => by cases h⟩

theorem over : Rows.fnAppendTwiceUptoRow.holds Try.pinned (Rows.OpenSpec.upto Rows.fnAppendTwiceSpec) :=
  OpenClaim.holds_of_cond 9 Try.f9 rfl rfl rfl rfl rfl rfl rfl ⟨rfl, rfl, rfl, rfl, rfl⟩ rfl rfl rfl rfl rfl (by kernel_rfl) Try.func9 (by kernel_rfl)
    (of_decide_eq_true (by kernel_rfl)) (by unfold Func.isWrapper; first | (rw [if_pos (by decide +kernel)]; kernel_rfl) | (rw [if_neg (by decide +kernel)]; exact ⟨rfl, rfl⟩))
    (fun os started H enc _ F => lifted os started H enc F)

/-- the given statement -/
theorem proved : Rows.FnAppendTwiceUptoSaid := over
#print axioms proved
end Go.Proofs.Ytbgkchjephioiaa.fnAppendTwice
