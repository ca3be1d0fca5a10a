/-
  FnBackward: the law returns true at every input of at most 1048576 values, and changes nothing that was there.
-/
import Derived.ProofKit
import Derived.OpenShut
import Derived.JoinedCond
import Derived.Deep.CondSized
import Derived.SizedLaws
import Derived.WalkKit
import Derived.WalkLawsBesides
import Derived.Outline
import Derived.Deep.DeepMust
import Derived.Test.YtbgkchjephioiaaOpen
import Derived.Test.YtbgkchjephioiaaPair
import Derived.Test.YtbgkchjephioiaaSpecP
namespace Go.Proofs.Ytbgkchjephioiaa.fnBackward
open Go.ChangeShapes Go.WideShapes Go.ChangeAt Go.RowKit
set_option linter.unusedVariables false
set_option linter.unusedSimpArgs false

theorem walk (a0 : Option Addr) (l0 c0 : Nat) (z0 : List Int) (a1 : Int) (w : World) (k0 : l0 ≤ c0) (m0 : c0 ≤ maxLen) (r0 : Rd w w.heap.size 1 a0 l0 (ints z0)) (f0 : ∀ x ∈ z0, (Lit.int .i64 x).wf = true) (f1 : (Lit.int .i64 a1).wf = true) (bu : l0 ≤ 1048576) :
    Calls Try.prog 4 #[.slice a0 l0 c0, .int .i64 a1] w fun e w' => e = .returned (.bool true) ∧ Below w.heap.size w w' := by
  have hlen : l0 * 16 ≤ 140737488351232 := by omega
  have hzl : z0.length = l0 := by have := r0.1; simpa using this
  have hfn : firstN z0.length a1 ≤ 1048576 := Nat.le_trans (firstN_le _ _) (by omega)
  have HF := hide hfn
  clear hzl hfn
  go_enter Try.func4, Try.ntmps4
  go_wp2_with fail
  refine (callsIn_wide.1 (implBackward_in Fence.wide 3 trivial trivial trivial rfl (Nat.le_refl _) a0 l0 c0 z0 a1 hlen w r0)).mono ?_
  rintro e w1 ⟨v1, rfl, own1, hb1⟩
  obtain ⟨A1, c1, rfl⟩ := own_slice own1
  have r1 : Rd w1 w.heap.size 1 a0 l0 (ints z0) := r0.below hb1
  have hs1 := hb1.size
  go_wp2_with fail
  refine (specBackward a0 l0 c0 z0 a1 hlen w1 (r1.more hs1)).mono ?_
  rintro e w2 ⟨v2, rfl, own2, hb2⟩
  obtain ⟨A2, c2, rfl⟩ := own_slice own2
  have hs2 := hb2.size
  go_wp2_with fail
  refine (iPairs A2 _ c2 0 _ w2 (Rd.of_own own2) (by have := HF.out; omega)).mono ?_
  rintro e w3 ⟨v3, rfl, own3, hb3⟩
  obtain ⟨A3, c3, rfl⟩ := own_slice own3
  go_wp2_with fail
  refine (equalPair _ _ _ _ _ _ _ _ _ _ w3 (((Rd.of_own own1).below hb2).below (hb3.mono hs2)) (Rd.of_own own3) (by have := HF.out; omega)).mono ?_
  rintro e w4 ⟨rfl, hd⟩
  go_wp2_with fail
  go_ret
  exact ⟨by simp, ((hb1.trans (hb2.mono hs1)).trans (hb3.mono (Nat.le_trans hs1 hs2))).trans (hd.below _)⟩

set_option maxRecDepth 100000 in
theorem lifted (os : Os) (started : os.Started) (H : Type) (enc : TypeId × Value → H) (F : Stop.Interp) :
    ReturnsInHanded {} Try.checked os 4 .any ((Rows.OpenSpec.upto Rows.fnBackwardSpec).pre6 enc Try.prog Try.f4 Rows.fnBackwardUptoRow.domain false) (((Rows.OpenSpec.upto Rows.fnBackwardSpec).at F).post enc Try.prog Try.f4 false true false false) := by
  refine returnsInHanded_of_cond (C := Try.checked) (s := (Rows.OpenSpec.upto Rows.fnBackwardSpec)) (k := Rows.uptoSmall) rfl own started (by kernel_rfl) Try.func4
    (OpenSpec.witness (enc := enc) (C := Try.checked) (s := (Rows.OpenSpec.upto Rows.fnBackwardSpec)) (k := Rows.uptoSmall) rfl false ⟨#[], #[.slice none 0 0, .int .i64 0], []⟩ 8 (by kernel_rfl) (by kernel_rfl) (by kernel_rfl)
      (x := ([.nil, .lit (.int .i64 0)], [], [])) (by kernel_rfl) rfl (by kernel_rfl)) ?_
  intro W base args ds gs before hval0 hW _ hk0 _
  have hk := bulk_bound hk0
  have hval : ∀ (j : Nat) t v, Try.f4.params[j]? = some t → args[j]? = some v → Value.okWide Try.prog W .any base t v := hval0
  have hW' := hW
  obtain ⟨p, q, hA0, hV, rfl, hfz, hnd⟩ := hW
  have hA : DataW.TrodAll enc Try.prog W 0 (fun _ => true) true Try.f4.params.toList args.toList ds p := hA0
  rw [Try.params4] at hA hval
  obtain ⟨v0, vs0, d0, ds0, p0, q0, hargs, rfl, rfl, h0, rr0⟩ := trodAll_cons hA
  obtain ⟨v1, vs1, d1, ds1, p1, q1, rfl, rfl, rfl, h1, rr1⟩ := trodAll_cons rr0
  obtain ⟨rfl, rfl, rfl⟩ := trodAll_nil rr1
  obtain rfl : args = #[v0, v1] := by cases args; simp_all
  obtain ⟨rfl, rfl⟩ := trodVars_none hV
  have t0 := h0
  have lt0 : ∀ x ∈ p0, x.block < W.heap.size := by obtain ⟨m, hm⟩ := t0; exact DataW.trod_lt m _ _ _ hm
  obtain ⟨a0, l0, c0, z0, rfl, k0, m0, r0, f0, u0, s0⟩ := openInts (hval 0 22 v0 rfl rfl) h0
  have t1 := h1
  have lt1 : ∀ x ∈ p1, x.block < W.heap.size := by obtain ⟨m, hm⟩ := t1; exact DataW.trod_lt m _ _ _ hm
  obtain ⟨a1, rfl, hd1, hp1, f1⟩ := open_int Try.underlying3 (hval 1 3 v1 rfl rfl) h1
  have u1 := bulk_one d1
  simp only [List.cons_append, List.nil_append, List.append_nil, Rows.uptoBulkAll] at hk
  have bu : l0 ≤ 1048576 := by omega
  refine (walk a0 l0 c0 z0 a1 W k0 m0 r0 f0 f1 bu).mono fun e W' ⟨he, bel⟩ => ?_
  subst he
  exact ⟨_, rfl, _, _, _, [], _, [], hW', trodAll_mk1 (shut_bool Try.underlying4 _), (trodAll_cons_mk (Below.trod laidOut (by kernel_rfl) (of_decide_eq_true (by kernel_rfl)) t0 bel lt0) (trodAll_cons_mk (Below.trod laidOut (by kernel_rfl) (of_decide_eq_true (by kernel_rfl)) t1 bel lt1) trodAll_mk0)), rfl, bel.frame _, fun h => by cases h⟩

theorem over : Rows.fnBackwardUptoRow.holds Try.pinned (Rows.OpenSpec.upto Rows.fnBackwardSpec) :=
  OpenClaim.holds_of_cond 4 Try.f4 rfl rfl rfl rfl rfl rfl rfl ⟨rfl, rfl, rfl, rfl, rfl⟩ rfl rfl rfl rfl rfl (by kernel_rfl) Try.func4 (by kernel_rfl)
    (of_decide_eq_true (by kernel_rfl)) (by unfold Func.isWrapper; first | (rw [if_pos (by decide +kernel)]; kernel_rfl) | (rw [if_neg (by decide +kernel)]; exact ⟨rfl, rfl⟩))
    (fun os started H enc _ F => lifted os started H enc F)

/-- the given statement -/
theorem proved : Rows.FnBackwardUptoSaid := over
#print axioms proved
end Go.Proofs.Ytbgkchjephioiaa.fnBackward
