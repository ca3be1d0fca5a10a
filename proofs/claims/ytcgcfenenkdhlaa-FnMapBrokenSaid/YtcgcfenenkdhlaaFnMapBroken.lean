/-
  FnMapBroken: the law returns true at every input, and changes nothing that was there.
-/
import Derived.ProofKit
import Derived.OpenShut
import Derived.JoinedCond
import Derived.Deep.CondSized
import Derived.SizedLaws
import Derived.WalkKit
import Derived.WalkLawsBesides
import Derived.Outline
import Derived.Deep.DeepMust
import Derived.Test.YtcgcfenenkdhlaaOpen
import Derived.Test.YtcgcfenenkdhlaaOpenE
import Derived.Test.YtcgcfenenkdhlaaMapB
import Derived.Test.YtcgcfenenkdhlaaTabL
namespace Go.Proofs.Ytcgcfenenkdhlaa.fnMapBroken
open Go.ChangeShapes Go.WideShapes Go.ChangeAt Go.RowKit
set_option linter.unusedVariables false
set_option linter.unusedSimpArgs false

set_option maxRecDepth 100000 in
set_option maxHeartbeats 4000000 in
theorem walk (a0 : Option Addr) (l0 c0 : Nat) (z0 : List (Int × Int)) (a1 : Int) (w : World) (k0 : l0 ≤ c0) (m0 : c0 ≤ maxLen) (r0 : Rd w w.heap.size 2 a0 l0 (pairs z0)) (f0 : ∀ x ∈ z0, (Lit.int .i64 x.1).wf = true ∧ (Lit.int .i64 x.2).wf = true) (f1 : (Lit.int .i64 a1).wf = true) (b0 : l0 * 16 ≤ 140737488351232) :
    Calls Try.prog 4 #[.slice a0 l0 c0, .int .i64 a1] w fun e w' => e = .returned (.bool true) ∧ Below w.heap.size w w' := by
  go_enter Try.func4, Try.ntmps4
  go_wp2_with fail
  refine (lawsTable a0 l0 c0 z0 w r0 b0).mono ?_
  rintro e w1 ⟨A1, d1, t, rfl, own1, htab, htl, g1⟩
  have hs1 := g1.size
  have HTAB := hide htab
  clear htab own1
  by_cases h0 : 0 ≤ a1
  · by_cases h1 : a1 < t.length
    · obtain ⟨p, rfl⟩ : ∃ p : Nat, a1 = p := ⟨a1.toNat, by omega⟩
      have HK : Hid (firstN t.length (p : Int) = p) := hide (by unfold firstN; rw [if_pos ⟨h0, h1⟩]; simp)
      have hbb : ((p : Int) == (p : Int)) = true := by simp
      go_wp2_with fail
      refine (implMapAllBroken a0 l0 c0 z0 (p : Int) b0 f0 w1 ((r0.below g1).more hs1)).mono ?_
      rintro e w2 ⟨k2, rfl, hk2, g2⟩
      obtain rfl : p = k2 := ((hk2 t HTAB.out).trans HK.out).symm
      have hs2 := g2.size
      clear hk2
      go_wp2_with fail
      refine (implMapKeysBroken a0 l0 c0 z0 (p : Int) b0 f0 w2 ((r0.below (g1.trans (g2.mono hs1))).more (by omega))).mono ?_
      rintro e w3 ⟨k3, rfl, hk3, g3⟩
      obtain rfl : p = k3 := ((hk3 t HTAB.out).trans HK.out).symm
      have hs3 := g3.size
      clear hk3
      go_wp2_with fail
      refine (implMapValuesBroken a0 l0 c0 z0 (p : Int) b0 f0 w3 ((r0.below (g1.trans ((g2.mono hs1).trans (g3.mono (by omega))))).more (by omega))).mono ?_
      rintro e w4 ⟨k4, rfl, hk4, g4⟩
      obtain rfl : p = k4 := ((hk4 t HTAB.out).trans HK.out).symm
      clear hk4
      go_wp2
      go_ret
      exact ⟨by simp, g1.trans ((g2.mono hs1).trans ((g3.mono (by omega)).trans (g4.mono (by omega))))⟩
    · have HK : Hid (firstN t.length a1 = t.length) := hide (by unfold firstN; rw [if_neg (fun h => h1 h.2)])
      have h1' : decide (a1 < (t.length : Int)) = false := by simpa using h1
      have hbb : ((t.length : Int) == (t.length : Int)) = true := by simp
      go_wp2_with fail
      refine (implMapAllBroken a0 l0 c0 z0 a1 b0 f0 w1 ((r0.below g1).more hs1)).mono ?_
      rintro e w2 ⟨k2, rfl, hk2, g2⟩
      obtain rfl : t.length = k2 := ((hk2 t HTAB.out).trans HK.out).symm
      have hs2 := g2.size
      clear hk2
      go_wp2_with fail
      refine (implMapKeysBroken a0 l0 c0 z0 a1 b0 f0 w2 ((r0.below (g1.trans (g2.mono hs1))).more (by omega))).mono ?_
      rintro e w3 ⟨k3, rfl, hk3, g3⟩
      obtain rfl : t.length = k3 := ((hk3 t HTAB.out).trans HK.out).symm
      have hs3 := g3.size
      clear hk3
      go_wp2_with fail
      refine (implMapValuesBroken a0 l0 c0 z0 a1 b0 f0 w3 ((r0.below (g1.trans ((g2.mono hs1).trans (g3.mono (by omega))))).more (by omega))).mono ?_
      rintro e w4 ⟨k4, rfl, hk4, g4⟩
      obtain rfl : t.length = k4 := ((hk4 t HTAB.out).trans HK.out).symm
      clear hk4
      go_wp2
      go_ret
      exact ⟨by simp, g1.trans ((g2.mono hs1).trans ((g3.mono (by omega)).trans (g4.mono (by omega))))⟩
  · have HK : Hid (firstN t.length a1 = t.length) := hide (by unfold firstN; rw [if_neg (fun h => h0 h.1)])
    have h0' : decide (0 ≤ a1) = false := by simpa using h0
    have h0n : a1 < 0 := by omega
    have hbb : ((t.length : Int) == (t.length : Int)) = true := by simp
    go_wp2_with fail
    refine (implMapAllBroken a0 l0 c0 z0 a1 b0 f0 w1 ((r0.below g1).more hs1)).mono ?_
    rintro e w2 ⟨k2, rfl, hk2, g2⟩
    obtain rfl : t.length = k2 := ((hk2 t HTAB.out).trans HK.out).symm
    have hs2 := g2.size
    clear hk2
    go_wp2_with fail
    refine (implMapKeysBroken a0 l0 c0 z0 a1 b0 f0 w2 ((r0.below (g1.trans (g2.mono hs1))).more (by omega))).mono ?_
    rintro e w3 ⟨k3, rfl, hk3, g3⟩
    obtain rfl : t.length = k3 := ((hk3 t HTAB.out).trans HK.out).symm
    have hs3 := g3.size
    clear hk3
    go_wp2_with fail
    refine (implMapValuesBroken a0 l0 c0 z0 a1 b0 f0 w3 ((r0.below (g1.trans ((g2.mono hs1).trans (g3.mono (by omega))))).more (by omega))).mono ?_
    rintro e w4 ⟨k4, rfl, hk4, g4⟩
    obtain rfl : t.length = k4 := ((hk4 t HTAB.out).trans HK.out).symm
    clear hk4
    go_wp2
    go_ret
    exact ⟨by simp, g1.trans ((g2.mono hs1).trans ((g3.mono (by omega)).trans (g4.mono (by omega))))⟩

set_option maxRecDepth 100000 in
theorem lifted (os : Os) (started : os.Started) (H : Type) (enc : TypeId × Value → H) :
    ReturnsInHanded {} Try.checked os 4 .any (Rows.fnMapBrokenSpec.pre6 enc Try.prog Try.f4 Rows.fnMapBrokenRow.domain false) (Rows.fnMapBrokenSpec.post enc Try.prog Try.f4 false true false false) := by
  refine returnsInHanded_of_change_sized (C := Try.checked) own started (by kernel_rfl) Try.func4
    (ChangeSpec.witness6 (enc := enc) (C := Try.checked) false ⟨#[], #[.slice none 0 0, .int .i64 0], []⟩ 8 (by kernel_rfl) (by kernel_rfl) (by kernel_rfl) (by kernel_rfl)) ?_
  intro W base args ds gs before hval0 hW _ hsz0 _
  have hsz : (DataW.weightsEach Try.prog (Try.f4.params.toList ++ Rows.fnMapBrokenSpec.plain.varTypes Try.prog) (ds ++ gs)).all (· ≤ reachBytes) = true := hsz0
  have hval : ∀ (j : Nat) t v, Try.f4.params[j]? = some t → args[j]? = some v → Value.okWide Try.prog W .any base t v := hval0
  have hW' := hW
  obtain ⟨p, q, hA0, hV, rfl, hfz, hnd⟩ := hW
  have hA : DataW.TrodAll enc Try.prog W 0 (fun _ => true) true Try.f4.params.toList args.toList ds p := hA0
  rw [Try.params4] at hA hval hsz
  obtain ⟨v0, vs0, d0, ds0, p0, q0, hargs, rfl, rfl, h0, rr0⟩ := trodAll_cons hA
  obtain ⟨v1, vs1, d1, ds1, p1, q1, rfl, rfl, rfl, h1, rr1⟩ := trodAll_cons rr0
  obtain ⟨rfl, rfl, rfl⟩ := trodAll_nil rr1
  obtain rfl : args = #[v0, v1] := by cases args; simp_all
  obtain ⟨rfl, rfl⟩ := trodVars_none hV
  have t0 := h0
  have lt0 : ∀ x ∈ p0, x.block < W.heap.size := by obtain ⟨m, hm⟩ := t0; exact DataW.trod_lt m _ _ _ hm
  obtain ⟨a0, l0, c0, z0, rfl, k0, m0, r0, f0, u0, s0⟩ := openPairs (hval 0 22 v0 rfl rfl) h0
  have b0 := s0 (sized_at hsz 0 rfl rfl)
  have t1 := h1
  have lt1 : ∀ x ∈ p1, x.block < W.heap.size := by obtain ⟨m, hm⟩ := t1; exact DataW.trod_lt m _ _ _ hm
  obtain ⟨a1, rfl, hd1, hp1, f1⟩ := open_int Try.underlying3 (hval 1 3 v1 rfl rfl) h1
  have u1 := bulk_one d1
  refine (walk a0 l0 c0 z0 a1 W k0 m0 r0 f0 f1 b0).mono fun e W' ⟨he, bel⟩ => ?_
  subst he
  exact ⟨_, rfl, _, _, _, [], _, [], hW', trodAll_mk1 (shut_bool Try.underlying4 _), (trodAll_cons_mk (Below.trod laidOut (by kernel_rfl) (of_decide_eq_true (by kernel_rfl)) t0 bel lt0) (trodAll_cons_mk (Below.trod laidOut (by kernel_rfl) (of_decide_eq_true (by kernel_rfl)) t1 bel lt1) trodAll_mk0)), rfl, bel.frame _, fun h => by cases h⟩

theorem over : Rows.fnMapBrokenRow.holds Try.pinned (OpenSpec.ofChange Rows.fnMapBrokenSpec) :=
  OpenClaim.holds_of_wide 4 Try.f4 rfl rfl rfl rfl rfl rfl rfl ⟨rfl, rfl, rfl, rfl, rfl⟩ rfl rfl rfl rfl rfl (by kernel_rfl) Try.func4 (by kernel_rfl)
    (of_decide_eq_true (by kernel_rfl)) (by unfold Func.isWrapper; first | (rw [if_pos (by decide +kernel)]; kernel_rfl) | (rw [if_neg (by decide +kernel)]; exact ⟨rfl, rfl⟩))
    (fun os started H enc _ => lifted os started H enc)

/-- the given statement -/
theorem proved : Rows.FnMapBrokenSaid := over
#print axioms proved
end Go.Proofs.Ytcgcfenenkdhlaa.fnMapBroken
