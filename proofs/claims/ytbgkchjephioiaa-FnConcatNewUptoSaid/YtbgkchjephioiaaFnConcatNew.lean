/-
  FnConcatNew: the law returns true at every input of at most 1048576 values, and changes nothing that was there.
-/
import Derived.ProofKit
import Derived.OpenShut
import Derived.JoinedCond
import Derived.Deep.CondSized
import Derived.SizedLaws
import Derived.WalkKit
import Derived.WalkLawsBesides
import Derived.Outline
import Derived.Deep.DeepMust
import Derived.Test.YtbgkchjephioiaaOpen
import Derived.Test.YtbgkchjephioiaaOpenR
import Derived.Test.YtbgkchjephioiaaConN
namespace Go.Proofs.Ytbgkchjephioiaa.fnConcatNew
open Go.ChangeShapes Go.WideShapes Go.ChangeAt Go.RowKit
set_option linter.unusedVariables false
set_option linter.unusedSimpArgs false

set_option maxRecDepth 100000 in
set_option maxHeartbeats 4000000 in
theorem walk (a0 : Option Addr) (l0 c0 : Nat) (rs0 : List (Option Addr × Nat × Nat)) (zz0 : List (List Int)) (a1 : Int) (w : World) (k0 : l0 ≤ c0) (m0 : c0 ≤ maxLen) (r0 : Rd w w.heap.size 1 a0 l0 (rows rs0)) (q0 : RowsRd w w.heap.size rs0 zz0) (f1 : (Lit.int .i64 a1).wf = true) (bu : (l0 + zz0.flatten.length) ≤ 1048576) :
    Calls Try.prog 15 #[.slice a0 l0 c0, .int .i64 a1] w fun e w' => e = .returned (.bool true) ∧ Below w.heap.size w w' := by
  have hn : l0 ≤ 4194304 := by omega
  have hn2 : l0 ≤ 9223372036854775807 := by omega
  have hb : zz0.flatten.length * 8 ≤ 140737488351232 := by omega
  have hl : ∀ z ∈ zz0, z.length ≤ 9223372036854775807 := fun z hz => by
    obtain ⟨k, hk, rfl⟩ := List.getElem_of_mem hz
    have h1 := flatten_take_le zz0 (k + 1)
    rw [flatten_snoc (List.getElem?_eq_getElem hk), List.length_append] at h1
    omega
  have HL := hide hl
  clear hl bu
  go_enter Try.func15, Try.ntmps15
  go_wp2_with fail
  refine (implConcatNew a0 l0 c0 rs0 zz0 a1 hn hb w r0 q0).mono ?_
  rintro e w1 ⟨rs', rfl, r1, q1, g1⟩
  have hs1 := g1.size
  go_wp2_with fail
  refine (equalsT _ _ _ _ _ _ _ rs' rs0 zz0 w1 r1 q1 (r0.below g1) (q0.below g1) hn2 HL.out).mono ?_
  rintro e w2 ⟨rfl, hd⟩
  go_wp2_with fail
  go_ret
  exact ⟨by simp, g1.trans (hd.below _)⟩

set_option maxRecDepth 100000 in
theorem lifted (os : Os) (started : os.Started) (H : Type) (enc : TypeId × Value → H) (F : Stop.Interp) :
    ReturnsInHanded {} Try.checked os 15 .any ((Rows.OpenSpec.upto Rows.fnConcatNewSpec).pre6 enc Try.prog Try.f15 Rows.fnConcatNewUptoRow.domain false) (((Rows.OpenSpec.upto Rows.fnConcatNewSpec).at F).post enc Try.prog Try.f15 false true false false) := by
  refine returnsInHanded_of_cond (C := Try.checked) (s := (Rows.OpenSpec.upto Rows.fnConcatNewSpec)) (k := Rows.uptoSmall) rfl own started (by kernel_rfl) Try.func15
    (OpenSpec.witness (enc := enc) (C := Try.checked) (s := (Rows.OpenSpec.upto Rows.fnConcatNewSpec)) (k := Rows.uptoSmall) rfl false ⟨#[], #[.slice none 0 0, .int .i64 0], []⟩ 8 (by kernel_rfl) (by kernel_rfl) (by kernel_rfl)
      (x := ([.nil, .lit (.int .i64 0)], [], [])) (by kernel_rfl) rfl (by kernel_rfl)) ?_
  intro W base args ds gs before hval0 hW _ hk0 _
  have hk := bulk_bound hk0
  have hval : ∀ (j : Nat) t v, Try.f15.params[j]? = some t → args[j]? = some v → Value.okWide Try.prog W .any base t v := hval0
  have hW' := hW
  obtain ⟨p, q, hA0, hV, rfl, hfz, hnd⟩ := hW
  have hA : DataW.TrodAll enc Try.prog W 0 (fun _ => true) true Try.f15.params.toList args.toList ds p := hA0
  rw [Try.params15] at hA hval
  obtain ⟨v0, vs0, d0, ds0, p0, q0, hargs, rfl, rfl, h0, rr0⟩ := trodAll_cons hA
  obtain ⟨v1, vs1, d1, ds1, p1, q1, rfl, rfl, rfl, h1, rr1⟩ := trodAll_cons rr0
  obtain ⟨rfl, rfl, rfl⟩ := trodAll_nil rr1
  obtain rfl : args = #[v0, v1] := by cases args; simp_all
  obtain ⟨rfl, rfl⟩ := trodVars_none hV
  have t0 := h0
  have lt0 : ∀ x ∈ p0, x.block < W.heap.size := by obtain ⟨m, hm⟩ := t0; exact DataW.trod_lt m _ _ _ hm
  obtain ⟨a0, l0, c0, rs0, zz0, rfl, k0, m0, r0, q0, u0, s0⟩ := openRows (hval 0 44 v0 rfl rfl) h0
  have t1 := h1
  have lt1 : ∀ x ∈ p1, x.block < W.heap.size := by obtain ⟨m, hm⟩ := t1; exact DataW.trod_lt m _ _ _ hm
  obtain ⟨a1, rfl, hd1, hp1, f1⟩ := open_int Try.underlying3 (hval 1 3 v1 rfl rfl) h1
  have u1 := bulk_one d1
  simp only [List.cons_append, List.nil_append, List.append_nil, Rows.uptoBulkAll] at hk
  have bu : (l0 + zz0.flatten.length) ≤ 1048576 := by omega
  refine (walk a0 l0 c0 rs0 zz0 a1 W k0 m0 r0 q0 f1 bu).mono fun e W' ⟨he, bel⟩ => ?_
  subst he
  exact ⟨_, rfl, _, _, _, [], _, [], hW', trodAll_mk1 (shut_bool Try.underlying4 _), (trodAll_cons_mk (Below.trod laidOut (by kernel_rfl) (of_decide_eq_true (by kernel_rfl)) t0 bel lt0) (trodAll_cons_mk (Below.trod laidOut (by kernel_rfl) (of_decide_eq_true (by kernel_rfl)) t1 bel lt1) trodAll_mk0)), rfl, bel.frame _, fun h => by cases h⟩

theorem over : Rows.fnConcatNewUptoRow.holds Try.pinned (Rows.OpenSpec.upto Rows.fnConcatNewSpec) :=
  OpenClaim.holds_of_cond 15 Try.f15 rfl rfl rfl rfl rfl rfl rfl ⟨rfl, rfl, rfl, rfl, rfl⟩ rfl rfl rfl rfl rfl (by kernel_rfl) Try.func15 (by kernel_rfl)
    (of_decide_eq_true (by kernel_rfl)) (by unfold Func.isWrapper; first | (rw [if_pos (by decide +kernel)]; kernel_rfl) | (rw [if_neg (by decide +kernel)]; exact ⟨rfl, rfl⟩))
    (fun os started H enc _ F => lifted os started H enc F)

/-- the given statement -/
theorem proved : Rows.FnConcatNewUptoSaid := over
#print axioms proved
end Go.Proofs.Ytbgkchjephioiaa.fnConcatNew
