/-
  FnSortedFloats: the law returns true at every input, and changes nothing that was there.
-/
import Derived.ProofKit
import Derived.OpenShut
import Derived.JoinedCond
import Derived.Deep.CondSized
import Derived.SizedLaws
import Derived.WalkKit
import Derived.WalkLawsBesides
import Derived.Outline
import Derived.Deep.DeepMust
import Derived.Deep.RegionWith
import Derived.Test.YthefajbahbmohaaOpen
import Derived.Test.YthefajbahbmohaaOpenU
import Derived.Test.YthefajbahbmohaaSFl
import Derived.Test.YthefajbahbmohaaCntU
namespace Go.Proofs.Ythefajbahbmohaa.fnSortedFloats
open Go.ChangeShapes Go.WideShapes Go.ChangeAt Go.RowKit
set_option linter.unusedVariables false
set_option linter.unusedSimpArgs false

theorem low_u64 {x : Int} (h : (Lit.int .u64 x).wf = true) : 0 ≤ x := by
  simp [Lit.wf, IntKind.min, IntKind.signed] at h
  omega
theorem rising {zs : List Int} {k : Nat} {x y : Int} (hx : (outF zs)[k]? = some x) (hy : (outF zs)[k + 1]? = some y) : ltF y.toNat x.toNat = false := by
  rw [outF, List.getElem?_map] at hx hy
  obtain ⟨x', hx', rfl⟩ := Option.map_eq_some_iff.1 hx
  obtain ⟨y', hy', rfl⟩ := Option.map_eq_some_iff.1 hy
  exact srtF_rises (Nat.lt_succ_self _) hx' hy'
set_option maxRecDepth 100000 in
set_option maxHeartbeats 4000000 in
theorem walk (a0 : Option Addr) (l0 c0 : Nat) (z0 : List Int) (w : World) (k0 : l0 ≤ c0) (m0 : c0 ≤ maxLen) (r0 : Rd w w.heap.size 1 a0 l0 (z0.map (Value.int .u64))) (f0 : ∀ x ∈ z0, (Lit.int .u64 x).wf = true) (b0 : l0 * 8 ≤ 140737488351232) :
    Calls Try.prog 11 #[.slice a0 l0 c0] w fun e w' => e = .returned (.bool true) ∧ Below w.heap.size w w' := by
  have hlen : l0 ≤ 9223372036854775806 := by omega
  have hpb : permB ((outF z0).map one1) (z0.map one1) = true := permB_of ((outF_perm fun x hx => low_u64 (f0 x hx)).map one1)
  have HPB := hide hpb
  clear hpb
  have mixed := mixedF
  go_enter Try.func11, Try.ntmps11
  go_wp2_with fail
  refine (implSortedFloats a0 l0 c0 z0 b0 w r0).mono ?_
  rintro e w1 ⟨A1, d1, rfl, own1, g1⟩
  have hrd := Rd.of_own own1
  have hs1 := g1.size
  clear own1
  go_wp2_with fail
  refine (lawsOneNaN A1 l0 d1 w1.heap.size (outF z0) w1 hrd (Nat.le_refl _) b0).mono ?_
  rintro e w2 ⟨A2, d2, rfl, own2, g2⟩
  have hs2 := g2.size
  have p2 := Rd.of_own own2
  clear own2
  go_wp2_with fail
  refine (lawsOneNaN a0 l0 c0 w.heap.size z0 w2 ((r0.below g1).below (g2.mono hs1)) (by omega) b0).mono ?_
  rintro e w3 ⟨A3, d3, rfl, own3, g3⟩
  have p3 := Rd.of_own own3
  clear own3
  have G3 : Below w.heap.size w w3 := (g1.trans (g2.mono hs1)).trans (g3.mono (by omega))
  have R3 := (hrd.below g2).below (g3.mono hs2)
  go_wp2_with fail
  refine (permutedU A2 A3 l0 l0 d2 d3 _ _ _ _ w3 (p2.below g3) p3 hlen hlen).mono ?_
  rintro e w4 ⟨rfl, rfl⟩
  rw [HPB.out]
  clear p2 p3 hrd g1 g2 g3 hs1 hs2
  go_wp2_with fail
  go_loopw [4] (fun i wr => ∃ j : Nat, j ≤ l0 ∧ i = .int .i64 ((j : Int) + 1) ∧ Drew w3 wr) (fun i _ => l0 + 1 - (intOf i).toNat)
  case atStart => exact ⟨0, Nat.zero_le _, rfl, Drew.refl _⟩
  case round =>
    obtain ⟨j, hj, rfl, hdr⟩ := hrel
    by_cases hlt : j + 1 < l0
    · obtain ⟨b, off, x, hA, hb, hx, hcx⟩ := (R3.ofDrew hdr).u64x (k := j) (by omega)
      obtain ⟨b', off', y, hA', hb', hy, hcy⟩ := (R3.ofDrew hdr).u64x hlt
      subst hA
      injection hA' with hA'
      injection hA' with e1 e2
      subst e1 e2
      have hxy : ltF y.toNat x.toNat = false := rising hx.out hy.out
      have HXY := hide hxy
      clear hxy
      have hlti : (j : Int) + 1 < (l0 : Int) := by omega
      have hltj : (j : Int) < (l0 : Int) := by omega
      have HAF : Hid (∀ w', Calls Try.prog 24 #[.int .u64 x, .int .u64 y] w' fun e w'' => e = .returned (.bool false) ∧ w'' = w') := hide fun w' => by rw [← HXY.out]; exact lawsAfter x y w'
      go_wp2_with fail
      go_quiet (first | (go_at_call 24; refine Calls.quiet_of_same (HAF.out _)))
      go_wp2_with fail
      go_roundw
      case rel => exact ⟨j + 1, by omega, by go_num, hdr.drewN _⟩
      case measure => simp [intOf]; omega
    · have hlti : ¬ ((j : Int) + 1 < (l0 : Int)) := by omega
      go_wp2_with fail
      go_ret
      exact ⟨rfl, G3.trans (hdr.below _)⟩

set_option maxRecDepth 100000 in
theorem lifted (os : Os) (started : os.Started) (H : Type) (enc : TypeId × Value → H) :
    ReturnsInHanded {} Try.checked os 11 .any (Rows.fnSortedFloatsSpec.pre6 enc Try.prog Try.f11 Rows.fnSortedFloatsRow.domain false) (Rows.fnSortedFloatsSpec.post enc Try.prog Try.f11 false true false false) := by
  refine returnsInHanded_of_change_sized (C := Try.checked) own started (by kernel_rfl) Try.func11
    (ChangeSpec.witness6 (enc := enc) (C := Try.checked) false ⟨#[], #[.slice none 0 0], []⟩ 8 (by kernel_rfl) (by kernel_rfl) (by kernel_rfl) (by kernel_rfl)) ?_
  intro W base args ds gs before hval0 hW _ hsz0 _
  have hsz : (DataW.weightsEach Try.prog (Try.f11.params.toList ++ Rows.fnSortedFloatsSpec.plain.varTypes Try.prog) (ds ++ gs)).all (· ≤ reachBytes) = true := hsz0
  have hval : ∀ (j : Nat) t v, Try.f11.params[j]? = some t → args[j]? = some v → Value.okWide Try.prog W .any base t v := hval0
  have hW' := hW
  obtain ⟨p, q, hA0, hV, rfl, hfz, hnd⟩ := hW
  have hA : DataW.TrodAll enc Try.prog W 0 (fun _ => true) true Try.f11.params.toList args.toList ds p := hA0
  rw [Try.params11] at hA hval hsz
  obtain ⟨v0, vs0, d0, ds0, p0, q0, hargs, rfl, rfl, h0, rr0⟩ := trodAll_cons hA
  obtain ⟨rfl, rfl, rfl⟩ := trodAll_nil rr0
  obtain rfl : args = #[v0] := by cases args; simp_all
  obtain ⟨rfl, rfl⟩ := trodVars_none hV
  have t0 := h0
  have lt0 : ∀ x ∈ p0, x.block < W.heap.size := by obtain ⟨m, hm⟩ := t0; exact DataW.trod_lt m _ _ _ hm
  obtain ⟨a0, l0, c0, z0, rfl, k0, m0, r0, f0, u0, s0⟩ := openU64s (hval 0 35 v0 rfl rfl) h0
  have b0 := s0 (sized_at hsz 0 rfl rfl)
  refine (walk a0 l0 c0 z0 W k0 m0 r0 f0 b0).mono fun e W' ⟨he, bel⟩ => ?_
  subst he
  exact ⟨_, rfl, _, _, _, [], _, [], hW', trodAll_mk1 (shut_bool Try.underlying4 _), (trodAll_cons_mk (Below.trod laidOut (by kernel_rfl) (of_decide_eq_true (by kernel_rfl)) t0 bel lt0) trodAll_mk0), rfl, bel.frame _, fun h => by cases h⟩

theorem over : Rows.fnSortedFloatsRow.holds Try.pinned (OpenSpec.ofChange Rows.fnSortedFloatsSpec) :=
  OpenClaim.holds_of_wide 11 Try.f11 rfl rfl rfl rfl rfl rfl rfl ⟨rfl, rfl, rfl, rfl, rfl⟩ rfl rfl rfl rfl rfl (by kernel_rfl) Try.func11 (by kernel_rfl)
    (of_decide_eq_true (by kernel_rfl)) (by unfold Func.isWrapper; first | (rw [if_pos (by decide +kernel)]; kernel_rfl) | (rw [if_neg (by decide +kernel)]; exact ⟨rfl, rfl⟩))
    (fun os started H enc _ => lifted os started H enc)

/-- the given statement -/
theorem proved : Rows.FnSortedFloatsSaid := over
#print axioms proved
end Go.Proofs.Ythefajbahbmohaa.fnSortedFloats
