/-
  FnAllAndValues: the law returns true at every input of at most 1048576 values, and changes nothing that was there.
-/
import Derived.ProofKit
import Derived.OpenShut
import Derived.JoinedCond
import Derived.Deep.CondSized
import Derived.SizedLaws
import Derived.WalkKit
import Derived.WalkLawsBesides
import Derived.Outline
import Derived.Deep.DeepMust
import Derived.Test.YtbgkchjephioiaaOpen
import Derived.Test.YtbgkchjephioiaaPair
import Derived.Test.YtbgkchjephioiaaVal
import Derived.Test.YtbgkchjephioiaaSpecP
namespace Go.Proofs.Ytbgkchjephioiaa.fnAllAndValues
open Go.ChangeShapes Go.WideShapes Go.ChangeAt Go.RowKit
set_option linter.unusedVariables false
set_option linter.unusedSimpArgs false

theorem walk (a0 : Option Addr) (l0 c0 : Nat) (z0 : List Int) (w : World) (k0 : l0 ≤ c0) (m0 : c0 ≤ maxLen) (r0 : Rd w w.heap.size 1 a0 l0 (ints z0)) (f0 : ∀ x ∈ z0, (Lit.int .i64 x).wf = true) (bu : l0 ≤ 1048576) :
    Calls Try.prog 12 #[.slice a0 l0 c0] w fun e w' => e = .returned (.bool true) ∧ Below w.heap.size w w' := by
  have hlen : l0 * 16 ≤ 140737488351232 := by omega
  have hzl : z0.length = l0 := by have := r0.1; simpa using this
  have hq : firstN z0.length (-1) = l0 := by unfold firstN; rw [if_neg (by omega)]; exact hzl
  have c1 := callsIn_wide.1 (implValues_in Fence.wide 3 trivial trivial trivial rfl (Nat.le_refl _) a0 l0 c0 z0 (-1) (by omega) w r0)
  rw [hq, List.take_of_length_le (by omega)] at c1
  have c2 := fun w r => callsIn_wide.1 (implAll_in Fence.wide 3 trivial trivial trivial rfl (Nat.le_refl _) a0 l0 c0 z0 (-1) hlen w r)
  rw [hq] at c2
  have C1 := hide c1
  have C2 := hide c2
  clear c1 c2 hq hzl
  have hll : ((l0 : Int) != (l0 : Int)) = false := by simp
  go_enter Try.func12, Try.ntmps12
  go_wp2_with fail
  refine (unhide C1).mono ?_
  rintro e w1 ⟨v1, rfl, own1, hb1⟩
  obtain ⟨A1, c1, rfl⟩ := own_slice own1
  have hs1 := hb1.size
  go_wp2_with fail
  refine ((unhide C2) w1 ((r0.below hb1).more hs1)).mono ?_
  rintro e w2 ⟨v2, rfl, own2, hb2⟩
  obtain ⟨A2, c2, rfl⟩ := own_slice own2
  have hs2 := hb2.size
  have rv : Rd w2 w2.heap.size 1 A1 l0 (ints z0) := ((Rd.of_own own1).below hb2).more hs2
  have rp : Rd w2 w2.heap.size 2 A2 l0 (pairs (upto (fwd z0) l0)) := Rd.of_own own2
  have hb02 : Below w.heap.size w w2 := hb1.trans (hb2.mono hs1)
  have hs02 := hb02.size
  clear C1 C2 own1 own2 hb1 hb2
  go_wp2
  go_loopw [25] (fun i wr => ∃ k : Nat, k ≤ l0 ∧ i = .int .i64 k ∧ Below w2.heap.size w2 wr) (fun i _ => l0 - (intOf i).toNat)
  case atStart => exact ⟨0, Nat.zero_le _, rfl, Below.refl _ _⟩
  case round =>
    obtain ⟨k, hk, rfl, hB⟩ := hrel
    have hsz := hB.size
    by_cases hlt : k < l0
    · obtain ⟨b, off, x, rfl, hb, hx, hcx⟩ := (rv.below hB).intx hlt
      obtain ⟨b', off', p1, p2, rfl, hb', hp, hc1, hc2⟩ := (rp.below hB).pair hlt
      obtain ⟨e1, rfl⟩ : (k : Int) = p1 ∧ x = p2 := by
        have h := hp.out
        simp [upto, hlt, fwd, hx.out] at h
        exact h
      subst e1
      have hbl : b < wr.heap.size := by omega
      have hcx' := fun o => (World.cell?_alloc_lt wr o ⟨b, off + k, none⟩ hbl).trans hcx
      have hkk : ((k : Int) != (k : Int)) = false := by simp
      have hxx : (x != x) = false := by simp
      have hki : (k : Int) < (l0 : Int) := by omega
      go_wp2
      go_quiet (fail)
      go_wp2
      go_roundw
      case rel => exact ⟨k + 1, by omega, by go_num, (hB.alloc hsz _).trans ((Drew.drewN (Drew.refl _) _).below _)⟩
      case measure => simp [intOf]; omega
    · obtain rfl : k = l0 := by omega
      go_wp2
      go_ret
      exact ⟨rfl, hb02.trans (hB.mono hs02)⟩

set_option maxRecDepth 100000 in
theorem lifted (os : Os) (started : os.Started) (H : Type) (enc : TypeId × Value → H) (F : Stop.Interp) :
    ReturnsInHanded {} Try.checked os 12 .any ((Rows.OpenSpec.upto Rows.fnAllAndValuesSpec).pre6 enc Try.prog Try.f12 Rows.fnAllAndValuesUptoRow.domain false) (((Rows.OpenSpec.upto Rows.fnAllAndValuesSpec).at F).post enc Try.prog Try.f12 false true false false) := by
  refine returnsInHanded_of_cond (C := Try.checked) (s := (Rows.OpenSpec.upto Rows.fnAllAndValuesSpec)) (k := Rows.uptoSmall) rfl own started (by kernel_rfl) Try.func12
    (OpenSpec.witness (enc := enc) (C := Try.checked) (s := (Rows.OpenSpec.upto Rows.fnAllAndValuesSpec)) (k := Rows.uptoSmall) rfl false ⟨#[], #[.slice none 0 0], []⟩ 8 (by kernel_rfl) (by kernel_rfl) (by kernel_rfl)
      (x := ([.nil], [], [])) (by kernel_rfl) rfl (by kernel_rfl)) ?_
  intro W base args ds gs before hval0 hW _ hk0 _
  have hk := bulk_bound hk0
  have hval : ∀ (j : Nat) t v, Try.f12.params[j]? = some t → args[j]? = some v → Value.okWide Try.prog W .any base t v := hval0
  have hW' := hW
  obtain ⟨p, q, hA0, hV, rfl, hfz, hnd⟩ := hW
  have hA : DataW.TrodAll enc Try.prog W 0 (fun _ => true) true Try.f12.params.toList args.toList ds p := hA0
  rw [Try.params12] at hA hval
  obtain ⟨v0, vs0, d0, ds0, p0, q0, hargs, rfl, rfl, h0, rr0⟩ := trodAll_cons hA
  obtain ⟨rfl, rfl, rfl⟩ := trodAll_nil rr0
  obtain rfl : args = #[v0] := by cases args; simp_all
  obtain ⟨rfl, rfl⟩ := trodVars_none hV
  have t0 := h0
  have lt0 : ∀ x ∈ p0, x.block < W.heap.size := by obtain ⟨m, hm⟩ := t0; exact DataW.trod_lt m _ _ _ hm
  obtain ⟨a0, l0, c0, z0, rfl, k0, m0, r0, f0, u0, s0⟩ := openInts (hval 0 22 v0 rfl rfl) h0
  simp only [List.cons_append, List.nil_append, List.append_nil, Rows.uptoBulkAll] at hk
  have bu : l0 ≤ 1048576 := by omega
  refine (walk a0 l0 c0 z0 W k0 m0 r0 f0 bu).mono fun e W' ⟨he, bel⟩ => ?_
  subst he
  exact ⟨_, rfl, _, _, _, [], _, [], hW', trodAll_mk1 (shut_bool Try.underlying4 _), (trodAll_cons_mk (Below.trod laidOut (by kernel_rfl) (of_decide_eq_true (by kernel_rfl)) t0 bel lt0) trodAll_mk0), rfl, bel.frame _, fun h => by cases h⟩

theorem over : Rows.fnAllAndValuesUptoRow.holds Try.pinned (Rows.OpenSpec.upto Rows.fnAllAndValuesSpec) :=
  OpenClaim.holds_of_cond 12 Try.f12 rfl rfl rfl rfl rfl rfl rfl ⟨rfl, rfl, rfl, rfl, rfl⟩ rfl rfl rfl rfl rfl (by kernel_rfl) Try.func12 (by kernel_rfl)
    (of_decide_eq_true (by kernel_rfl)) (by unfold Func.isWrapper; first | (rw [if_pos (by decide +kernel)]; kernel_rfl) | (rw [if_neg (by decide +kernel)]; exact ⟨rfl, rfl⟩))
    (fun os started H enc _ F => lifted os started H enc F)

/-- the given statement -/
theorem proved : Rows.FnAllAndValuesUptoSaid := over
#print axioms proved
end Go.Proofs.Ytbgkchjephioiaa.fnAllAndValues
