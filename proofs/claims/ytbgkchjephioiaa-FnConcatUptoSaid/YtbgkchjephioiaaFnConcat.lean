/-
  FnConcat: the law returns true at every input of at most 1048576 values, and changes nothing that was there.
-/
import Derived.ProofKit
import Derived.OpenShut
import Derived.JoinedCond
import Derived.Deep.CondSized
import Derived.SizedLaws
import Derived.WalkKit
import Derived.WalkLawsBesides
import Derived.Outline
import Derived.Deep.DeepMust
import Derived.Test.YtbgkchjephioiaaOpen
import Derived.Test.YtbgkchjephioiaaOpenR
import Derived.Test.YtbgkchjephioiaaCon
namespace Go.Proofs.Ytbgkchjephioiaa.fnConcat
open Go.ChangeShapes Go.WideShapes Go.ChangeAt Go.RowKit
set_option linter.unusedVariables false
set_option linter.unusedSimpArgs false

set_option maxRecDepth 100000 in
set_option maxHeartbeats 4000000 in
theorem walk (a0 : Option Addr) (l0 c0 : Nat) (rs0 : List (Option Addr × Nat × Nat)) (zz0 : List (List Int)) (w : World) (k0 : l0 ≤ c0) (m0 : c0 ≤ maxLen) (r0 : Rd w w.heap.size 1 a0 l0 (rows rs0)) (q0 : RowsRd w w.heap.size rs0 zz0) (bu : (l0 + zz0.flatten.length) ≤ 1048576) :
    Calls Try.prog 10 #[.slice a0 l0 c0] w fun e w' => e = .returned (.bool true) ∧ Below w.heap.size w w' := by
  have hb : zz0.flatten.length * 8 ≤ 140737488351232 := by omega
  have hb2 : zz0.flatten.length ≤ 9223372036854775807 := by omega
  have hn : l0 ≤ 4194304 := by omega
  obtain ⟨N, hN⟩ : ∃ N, zz0.flatten.length = N := ⟨_, rfl⟩
  have hd : decide (zz0.flatten = []) = ((N : Int) == 0) := by rw [← hN]; cases zz0.flatten <;> simp; omega
  have c1 := implConcat a0 l0 c0 rs0 zz0 hn hb w r0 q0
  have c2 := fun w r q => specConcat a0 l0 c0 rs0 zz0 hn hb w r q
  rw [hN, hd] at c1
  rw [hN] at c2 hb2
  have C1 := hide c1
  have C2 := hide c2
  have hee : (((N : Int) == 0) == ((N : Int) == 0)) = true := by simp
  clear hd hN c1 c2 bu hb
  go_enter Try.func10, Try.ntmps10
  go_wp2_with fail
  refine (unhide C1).mono ?_
  rintro e w1 ⟨A1, c1, rfl, own1, g1⟩
  have hs1 := g1.size
  go_wp2_with fail
  refine ((unhide C2) w1 ((r0.below g1).more hs1) ((q0.below g1).more hs1)).mono ?_
  rintro e w2 ⟨A2, c2, rfl, own2, g2⟩
  go_wp2_with fail
  refine (equalIntT _ _ _ _ _ _ _ _ _ w2 ((Rd.of_own own1).below g2) (Rd.of_own own2) hb2).mono ?_
  rintro e w3 ⟨rfl, hd⟩
  go_wp2
  go_ret
  exact ⟨by simp, (g1.trans (g2.mono hs1)).trans (hd.below _)⟩

set_option maxRecDepth 100000 in
theorem lifted (os : Os) (started : os.Started) (H : Type) (enc : TypeId × Value → H) (F : Stop.Interp) :
    ReturnsInHanded {} Try.checked os 10 .any ((Rows.OpenSpec.upto Rows.fnConcatSpec).pre6 enc Try.prog Try.f10 Rows.fnConcatUptoRow.domain false) (((Rows.OpenSpec.upto Rows.fnConcatSpec).at F).post enc Try.prog Try.f10 false true false false) := by
  refine returnsInHanded_of_cond (C := Try.checked) (s := (Rows.OpenSpec.upto Rows.fnConcatSpec)) (k := Rows.uptoSmall) rfl own started (by kernel_rfl) Try.func10
    (OpenSpec.witness (enc := enc) (C := Try.checked) (s := (Rows.OpenSpec.upto Rows.fnConcatSpec)) (k := Rows.uptoSmall) rfl false ⟨#[], #[.slice none 0 0], []⟩ 8 (by kernel_rfl) (by kernel_rfl) (by kernel_rfl)
      (x := ([.nil], [], [])) (by kernel_rfl) rfl (by kernel_rfl)) ?_
  intro W base args ds gs before hval0 hW _ hk0 _
  have hk := bulk_bound hk0
  have hval : ∀ (j : Nat) t v, Try.f10.params[j]? = some t → args[j]? = some v → Value.okWide Try.prog W .any base t v := hval0
  have hW' := hW
  obtain ⟨p, q, hA0, hV, rfl, hfz, hnd⟩ := hW
  have hA : DataW.TrodAll enc Try.prog W 0 (fun _ => true) true Try.f10.params.toList args.toList ds p := hA0
  rw [Try.params10] at hA hval
  obtain ⟨v0, vs0, d0, ds0, p0, q0, hargs, rfl, rfl, h0, rr0⟩ := trodAll_cons hA
  obtain ⟨rfl, rfl, rfl⟩ := trodAll_nil rr0
  obtain rfl : args = #[v0] := by cases args; simp_all
  obtain ⟨rfl, rfl⟩ := trodVars_none hV
  have t0 := h0
  have lt0 : ∀ x ∈ p0, x.block < W.heap.size := by obtain ⟨m, hm⟩ := t0; exact DataW.trod_lt m _ _ _ hm
  obtain ⟨a0, l0, c0, rs0, zz0, rfl, k0, m0, r0, q0, u0, s0⟩ := openRows (hval 0 44 v0 rfl rfl) h0
  simp only [List.cons_append, List.nil_append, List.append_nil, Rows.uptoBulkAll] at hk
  have bu : (l0 + zz0.flatten.length) ≤ 1048576 := by omega
  refine (walk a0 l0 c0 rs0 zz0 W k0 m0 r0 q0 bu).mono fun e W' ⟨he, bel⟩ => ?_
  subst he
  exact ⟨_, rfl, _, _, _, [], _, [], hW', trodAll_mk1 (shut_bool Try.underlying4 _), (trodAll_cons_mk (Below.trod laidOut (by kernel_rfl) (of_decide_eq_true (by kernel_rfl)) t0 bel lt0) trodAll_mk0), rfl, bel.frame _, fun h => by cases h⟩

theorem over : Rows.fnConcatUptoRow.holds Try.pinned (Rows.OpenSpec.upto Rows.fnConcatSpec) :=
  OpenClaim.holds_of_cond 10 Try.f10 rfl rfl rfl rfl rfl rfl rfl ⟨rfl, rfl, rfl, rfl, rfl⟩ rfl rfl rfl rfl rfl (by kernel_rfl) Try.func10 (by kernel_rfl)
    (of_decide_eq_true (by kernel_rfl)) (by unfold Func.isWrapper; first | (rw [if_pos (by decide +kernel)]; kernel_rfl) | (rw [if_neg (by decide +kernel)]; exact ⟨rfl, rfl⟩))
    (fun os started H enc _ F => lifted os started H enc F)

/-- the given statement -/
theorem proved : Rows.FnConcatUptoSaid := over
#print axioms proved
end Go.Proofs.Ytbgkchjephioiaa.fnConcat
