/-
  FnAppendSeq: the law returns true at every input of at most 1048576 values, and changes nothing that was there.
-/
import Derived.ProofKit
import Derived.OpenShut
import Derived.JoinedCond
import Derived.Deep.CondSized
import Derived.SizedLaws
import Derived.WalkKit
import Derived.WalkLawsBesides
import Derived.Outline
import Derived.Deep.DeepMust
import Derived.Test.YtbgkchjephioiaaOpen
import Derived.Test.YtbgkchjephioiaaImpA
import Derived.Test.YtbgkchjephioiaaSpecA
import Derived.Test.YtbgkchjephioiaaSpec
namespace Go.Proofs.Ytbgkchjephioiaa.fnAppendSeq
open Go.ChangeShapes Go.WideShapes Go.ChangeAt Go.RowKit
set_option linter.unusedVariables false
set_option linter.unusedSimpArgs false

set_option maxRecDepth 100000 in
set_option maxHeartbeats 4000000 in
theorem walk (a0 : Option Addr) (l0 c0 : Nat) (z0 : List Int) (a1 : Int) (a2 : Bool) (a3 : Option Addr) (l3 c3 : Nat) (z3 : List Int) (w : World) (k0 : l0 ≤ c0) (m0 : c0 ≤ maxLen) (r0 : Rd w w.heap.size 1 a0 l0 (ints z0)) (f0 : ∀ x ∈ z0, (Lit.int .i64 x).wf = true) (f1 : (Lit.int .i64 a1).wf = true) (k3 : l3 ≤ c3) (m3 : c3 ≤ maxLen) (r3 : Rd w w.heap.size 1 a3 l3 (ints z3)) (f3 : ∀ x ∈ z3, (Lit.int .i64 x).wf = true) (bu : l0 + l3 ≤ 1048576) :
    Calls Try.prog 8 #[.slice a0 l0 c0, .int .i64 a1, .bool a2, .slice a3 l3 c3] w fun e w' => e = .returned (.bool true) ∧ Below w.heap.size w w' := by
  have hb1 : l0 + l3 ≤ 4194304 := by omega
  have hb2 : (l0 + l3) * 8 ≤ 140737488351232 := by omega
  have hb3 : l0 + l3 ≤ 9223372036854775807 := by omega
  clear bu
  cases a2 with
  | false =>
    go_enter Try.func8, Try.ntmps8
    go_wp2_with fail
    refine (implAppendSeq a0 l0 c0 z0 a1 false a3 l3 c3 z3 hb1 w r0 r3).mono ?_
    rintro e w1 ⟨A1, c1, rfl, own1, hb1⟩
    have hs1 := hb1.size
    go_wp2_with fail
    refine (specAppendSeq a0 l0 c0 z0 false a3 l3 c3 z3 hb2 w1 ((r0.below hb1).more hs1) ((r3.below hb1).more hs1)).mono ?_
    rintro e w2 ⟨A2, c2, rfl, own2, hb2⟩
    have hs2 := hb2.size
    go_wp2_with fail
    refine (equalIntT _ _ _ _ _ _ _ _ _ w2 ((Rd.of_own own1).below hb2) (Rd.of_own own2) hb3).mono ?_
    rintro e w3 ⟨rfl, hd⟩
    have hff : (flagOf false (l0 + l3) == flagOf false (l0 + l3)) = true := by simp
    go_wp2
    go_ret
    exact ⟨by simp, (hb1.trans (hb2.mono hs1)).trans (hd.below _)⟩
  | true =>
    by_cases h0 : l0 = 0
    · have h0' : ((l0 : Int) == 0) = true := by simp; omega
      have H0 := hide h0
      clear h0
      go_enter Try.func8, Try.ntmps8
      go_wp2_with fail
      refine (implAppendSeq a0 l0 c0 z0 a1 true a3 l3 c3 z3 hb1 w r0 r3).mono ?_
      rintro e w1 ⟨A1, c1, rfl, own1, hb1⟩
      have hs1 := hb1.size
      go_wp2_with fail
      refine (specAppendSeq a0 l0 c0 z0 true a3 l3 c3 z3 hb2 w1 ((r0.below hb1).more hs1) ((r3.below hb1).more hs1)).mono ?_
      rintro e w2 ⟨A2, c2, rfl, own2, hb2⟩
      have hs2 := hb2.size
      go_wp2_with fail
      refine (equalIntT _ _ _ _ _ _ _ _ _ w2 ((Rd.of_own own1).below hb2) (Rd.of_own own2) hb3).mono ?_
      rintro e w3 ⟨rfl, hd⟩
      have hff : (flagOf true (l0 + l3) == flagOf true (l0 + l3)) = true := by simp
      go_wp2
      go_ret
      exact ⟨by simp, (hb1.trans (hb2.mono hs1)).trans (hd.below _)⟩
    · have h0' : ((l0 : Int) == 0) = false := by simp; omega
      clear h0
      go_enter Try.func8, Try.ntmps8
      go_wp2_with fail
      refine (implAppendSeq a0 l0 c0 z0 a1 false a3 l3 c3 z3 hb1 w r0 r3).mono ?_
      rintro e w1 ⟨A1, c1, rfl, own1, hb1⟩
      have hs1 := hb1.size
      go_wp2_with fail
      refine (specAppendSeq a0 l0 c0 z0 false a3 l3 c3 z3 hb2 w1 ((r0.below hb1).more hs1) ((r3.below hb1).more hs1)).mono ?_
      rintro e w2 ⟨A2, c2, rfl, own2, hb2⟩
      have hs2 := hb2.size
      go_wp2_with fail
      refine (equalIntT _ _ _ _ _ _ _ _ _ w2 ((Rd.of_own own1).below hb2) (Rd.of_own own2) hb3).mono ?_
      rintro e w3 ⟨rfl, hd⟩
      have hff : (flagOf false (l0 + l3) == flagOf false (l0 + l3)) = true := by simp
      go_wp2
      go_ret
      exact ⟨by simp, (hb1.trans (hb2.mono hs1)).trans (hd.below _)⟩

set_option maxRecDepth 100000 in
theorem lifted (os : Os) (started : os.Started) (H : Type) (enc : TypeId × Value → H) (F : Stop.Interp) :
    ReturnsInHanded {} Try.checked os 8 .any ((Rows.OpenSpec.upto Rows.fnAppendSeqSpec).pre6 enc Try.prog Try.f8 Rows.fnAppendSeqUptoRow.domain false) (((Rows.OpenSpec.upto Rows.fnAppendSeqSpec).at F).post enc Try.prog Try.f8 false true false false) := by
  refine returnsInHanded_of_cond (C := Try.checked) (s := (Rows.OpenSpec.upto Rows.fnAppendSeqSpec)) (k := Rows.uptoSmall) rfl own started (by kernel_rfl) Try.func8
    (OpenSpec.witness (enc := enc) (C := Try.checked) (s := (Rows.OpenSpec.upto Rows.fnAppendSeqSpec)) (k := Rows.uptoSmall) rfl false ⟨#[], #[.slice none 0 0, .int .i64 0, .bool false, .slice none 0 0], []⟩ 8 (by kernel_rfl) (by kernel_rfl) (by kernel_rfl)
      (x := ([.nil, .lit (.int .i64 0), .lit (.bool false), .nil], [], [])) (by kernel_rfl) rfl (by kernel_rfl)) ?_
  intro W base args ds gs before hval0 hW _ hk0 _
  have hk := bulk_bound hk0
  have hval : ∀ (j : Nat) t v, Try.f8.params[j]? = some t → args[j]? = some v → Value.okWide Try.prog W .any base t v := hval0
  have hW' := hW
  obtain ⟨p, q, hA0, hV, rfl, hfz, hnd⟩ := hW
  have hA : DataW.TrodAll enc Try.prog W 0 (fun _ => true) true Try.f8.params.toList args.toList ds p := hA0
  rw [Try.params8] at hA hval
  obtain ⟨v0, vs0, d0, ds0, p0, q0, hargs, rfl, rfl, h0, rr0⟩ := trodAll_cons hA
  obtain ⟨v1, vs1, d1, ds1, p1, q1, rfl, rfl, rfl, h1, rr1⟩ := trodAll_cons rr0
  obtain ⟨v2, vs2, d2, ds2, p2, q2, rfl, rfl, rfl, h2, rr2⟩ := trodAll_cons rr1
  obtain ⟨v3, vs3, d3, ds3, p3, q3, rfl, rfl, rfl, h3, rr3⟩ := trodAll_cons rr2
  obtain ⟨rfl, rfl, rfl⟩ := trodAll_nil rr3
  obtain rfl : args = #[v0, v1, v2, v3] := by cases args; simp_all
  obtain ⟨rfl, rfl⟩ := trodVars_none hV
  have t0 := h0
  have lt0 : ∀ x ∈ p0, x.block < W.heap.size := by obtain ⟨m, hm⟩ := t0; exact DataW.trod_lt m _ _ _ hm
  obtain ⟨a0, l0, c0, z0, rfl, k0, m0, r0, f0, u0, s0⟩ := openInts (hval 0 22 v0 rfl rfl) h0
  have t1 := h1
  have lt1 : ∀ x ∈ p1, x.block < W.heap.size := by obtain ⟨m, hm⟩ := t1; exact DataW.trod_lt m _ _ _ hm
  obtain ⟨a1, rfl, hd1, hp1, f1⟩ := open_int Try.underlying3 (hval 1 3 v1 rfl rfl) h1
  have u1 := bulk_one d1
  have t2 := h2
  have lt2 : ∀ x ∈ p2, x.block < W.heap.size := by obtain ⟨m, hm⟩ := t2; exact DataW.trod_lt m _ _ _ hm
  obtain ⟨a2, rfl, hd2, hp2⟩ := open_bool Try.underlying4 (hval 2 4 v2 rfl rfl) h2
  have u2 := bulk_one d2
  have t3 := h3
  have lt3 : ∀ x ∈ p3, x.block < W.heap.size := by obtain ⟨m, hm⟩ := t3; exact DataW.trod_lt m _ _ _ hm
  obtain ⟨a3, l3, c3, z3, rfl, k3, m3, r3, f3, u3, s3⟩ := openInts (hval 3 22 v3 rfl rfl) h3
  simp only [List.cons_append, List.nil_append, List.append_nil, Rows.uptoBulkAll] at hk
  have bu : l0 + l3 ≤ 1048576 := by omega
  refine (walk a0 l0 c0 z0 a1 a2 a3 l3 c3 z3 W k0 m0 r0 f0 f1 k3 m3 r3 f3 bu).mono fun e W' ⟨he, bel⟩ => ?_
  subst he
  exact ⟨_, rfl, _, _, _, [], _, [], hW', trodAll_mk1 (shut_bool Try.underlying4 _), (trodAll_cons_mk (Below.trod laidOut (by kernel_rfl) (of_decide_eq_true (by kernel_rfl)) t0 bel lt0) (trodAll_cons_mk (Below.trod laidOut (by kernel_rfl) (of_decide_eq_true (by kernel_rfl)) t1 bel lt1) (trodAll_cons_mk (Below.trod laidOut (by kernel_rfl) (of_decide_eq_true (by kernel_rfl)) t2 bel lt2) (trodAll_cons_mk (Below.trod laidOut (by kernel_rfl) (of_decide_eq_true (by kernel_rfl)) t3 bel lt3) trodAll_mk0)))), rfl, bel.frame _, fun h => by cases h⟩

theorem over : Rows.fnAppendSeqUptoRow.holds Try.pinned (Rows.OpenSpec.upto Rows.fnAppendSeqSpec) :=
  OpenClaim.holds_of_cond 8 Try.f8 rfl rfl rfl rfl rfl rfl rfl ⟨rfl, rfl, rfl, rfl, rfl⟩ rfl rfl rfl rfl rfl (by kernel_rfl) Try.func8 (by kernel_rfl)
    (of_decide_eq_true (by kernel_rfl)) (by unfold Func.isWrapper; first | (rw [if_pos (by decide +kernel)]; kernel_rfl) | (rw [if_neg (by decide +kernel)]; exact ⟨rfl, rfl⟩))
    (fun os started H enc _ F => lifted os started H enc F)

/-- the given statement -/
theorem proved : Rows.FnAppendSeqUptoSaid := over
#print axioms proved
end Go.Proofs.Ytbgkchjephioiaa.fnAppendSeq
