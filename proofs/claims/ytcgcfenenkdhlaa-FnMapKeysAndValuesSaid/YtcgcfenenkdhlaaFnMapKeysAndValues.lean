/-
  FnMapKeysAndValues: the law returns true at every input, and changes nothing that was there.
-/
import Derived.ProofKit
import Derived.OpenShut
import Derived.JoinedCond
import Derived.Deep.CondSized
import Derived.SizedLaws
import Derived.WalkKit
import Derived.WalkLawsBesides
import Derived.Outline
import Derived.Deep.DeepMust
import Derived.Test.YtcgcfenenkdhlaaOpen
import Derived.Test.YtcgcfenenkdhlaaOpenE
import Derived.Test.YtcgcfenenkdhlaaMapA
import Derived.Test.YtcgcfenenkdhlaaMapK
import Derived.Test.YtcgcfenenkdhlaaSortI
import Derived.Test.YtcgcfenenkdhlaaTabL
import Derived.Test.YtcgcfenenkdhlaaSpec
namespace Go.Proofs.Ytcgcfenenkdhlaa.fnMapKeysAndValues
open Go.ChangeShapes Go.WideShapes Go.ChangeAt Go.RowKit
set_option linter.unusedVariables false
set_option linter.unusedSimpArgs false

theorem tab_zero {ts zs : List (Int × Int)} (h : Tab ts (lk zs)) : (zs.length = 0) ↔ (ts.length = 0) := by
  constructor
  · intro hz
    have hz' : zs = [] := List.eq_nil_of_length_eq_zero hz
    subst hz'
    cases ts with
    | nil => rfl
    | cons p ts => have := (h.mem p.1 p.2).1 List.mem_cons_self; simp [lk] at this
  · intro ht
    have ht' : ts = [] := List.eq_nil_of_length_eq_zero ht
    subst ht'
    induction zs using snocInd with
    | nil => rfl
    | snoc l e _ =>
      have := (h.mem e.1 e.2).2 (by rw [lk_snoc, if_pos rfl])
      cases this
theorem keys_step {ts zs : List (Int × Int)} (h : Tab ts (lk zs)) {k : Nat} {x y : Int} (hx : (ts.map (·.1))[k]? = some x) (hy : (ts.map (·.1))[k + 1]? = some y) : x < y := by
  obtain ⟨h1, rfl⟩ := List.getElem?_eq_some_iff.1 hx
  obtain ⟨h2, rfl⟩ := List.getElem?_eq_some_iff.1 hy
  exact (List.pairwise_iff_getElem.1 h.keys_rising) k (k + 1) h1 h2 (Nat.lt_succ_self _)
set_option maxRecDepth 100000 in
set_option maxHeartbeats 4000000 in
theorem walk (a0 : Option Addr) (l0 c0 : Nat) (z0 : List (Int × Int)) (w : World) (k0 : l0 ≤ c0) (m0 : c0 ≤ maxLen) (r0 : Rd w w.heap.size 2 a0 l0 (pairs z0)) (f0 : ∀ x ∈ z0, (Lit.int .i64 x.1).wf = true ∧ (Lit.int .i64 x.2).wf = true) (b0 : l0 * 16 ≤ 140737488351232) :
    Calls Try.prog 3 #[.slice a0 l0 c0] w fun e w' => e = .returned (.bool true) ∧ Below w.heap.size w w' := by
  go_enter Try.func3, Try.ntmps3
  go_wp2_with fail
  refine (implMapAll a0 l0 c0 z0 b0 f0 w r0).mono ?_
  rintro e w1 ⟨A1, m, d1, ts, rfl, own1, htab, hpl, hml, g1⟩
  have hs1 := g1.size
  have HT := hide htab
  have HPL := hide hpl
  clear htab hpl
  go_wp2_with fail
  refine (implMapKeys a0 l0 c0 z0 b0 f0 w1 ((r0.below g1).more hs1)).mono ?_
  rintro e w2 ⟨A2, m2, d2, ps, rfl, own2, hall, hpl2, hml2, g2⟩
  have hs2 := g2.size
  obtain rfl : m = m2 := by rw [← HPL.out, ← hpl2]; exact (hall.length HT.out).symm
  rw [hall.keys HT.out] at own2
  clear hall hpl2 hml2
  have hrd1 := (Rd.of_own own1).below g2
  go_wp2_with fail
  refine (laws_values A1 m d1 w1.heap.size ts w2 hrd1 hs2 (by omega)).mono ?_
  rintro e w3 ⟨A3, d3, rfl, own3, g3⟩
  have hs3 := g3.size
  go_wp2_with fail
  refine (implSorted A3 m d3 (ts.map (·.2)) (by omega) w3 (Rd.of_own own3)).mono ?_
  rintro e w4 ⟨A4, d4, rfl, own4, g4⟩
  have hs4 := g4.size
  have hrd2 := (Rd.of_own own2).below (g3.trans (g4.mono hs3))
  have hrd4 := Rd.of_own own4
  have hrd1' := hrd1.below ((g3.trans (g4.mono hs3)).mono hs2)
  have hgw : Below w.heap.size w w4 := g1.trans ((g2.mono hs1).trans ((g3.mono (by omega)).trans (g4.mono (by omega))))
  have hsw := hgw.size
  have HZ0 : Hid ((((l0 : Int) == 0) == ((m : Int) == 0)) = true) := hide (by
    have h1 := tab_zero HT.out
    have h2 : z0.length = l0 := by have := r0.1; rw [pairs_length] at this; omega
    rw [h2, HPL.out] at h1
    by_cases hh : m = 0
    · have := h1.2 hh; subst hh; subst this; rfl
    · have h3 : l0 ≠ 0 := fun e => hh (h1.1 e)
      rw [show ((l0 : Int) == 0) = false by simpa using h3, show ((m : Int) == 0) = false by simpa using hh]; rfl)
  clear own1 own2 own3 own4 hrd1 g1 g2 g3 g4
  go_wp2_with fail
  go_loopw [7] (fun i wr => ∃ j : Nat, j ≤ m ∧ i = .int .i64 ((j : Int) + 1) ∧ Drew w4 wr) (fun i _ => m + 1 - (RowKit.intOf i).toNat)
  case atStart => exact ⟨0, Nat.zero_le _, rfl, Drew.refl _⟩
  case round =>
    obtain ⟨j, hj, rfl, hdr⟩ := hrel
    by_cases hlt : j + 1 < m
    · obtain ⟨b, off, x, hA, hb, hx, hcx⟩ := (hrd2.ofDrew hdr).intx (k := j) (by omega)
      obtain ⟨b', off', y, hA', hb', hy, hcy⟩ := (hrd2.ofDrew hdr).intx hlt
      subst hA
      injection hA' with hA'
      injection hA' with e1 e2
      subst e1 e2
      have hxy : x < y := keys_step HT.out hx.out hy.out
      have hnlt : decide (y ≤ x) = false := by simp; omega
      have hlti : (j : Int) + 1 < (m : Int) := by omega
      have hltj : (j : Int) < (m : Int) := by omega
      go_wp2_with fail
      go_quiet (fail)
      go_wp2_with fail
      go_roundw
      case rel => exact ⟨j + 1, by omega, by go_num, hdr.drewN _⟩
      case measure => simp [RowKit.intOf]; omega
    · have hlti : ¬ ((j : Int) + 1 < (m : Int)) := by omega
      have hgr : Below w.heap.size w wr := hgw.trans (hdr.below _)
      have hsr : wr.heap.size = w4.heap.size := by rw [hdr.heap]
      have q1 := hrd1'.ofDrew hdr
      have q2 := hrd2.ofDrew hdr
      have q4 := hrd4.ofDrew hdr
      have HSR := hide hsr
      clear hsr
      go_wp2_with fail
      refine (laws_keys A1 m d1 w1.heap.size ts wr q1 (by have := HSR.out; omega) (by omega)).mono ?_
      rintro e w5 ⟨A5, d5, rfl, own5, g5⟩
      have hs5 := g5.size
      go_wp2_with fail
      refine (equalIntT _ _ _ _ _ _ _ _ _ w5 (Rd.of_own own5) (q2.below (g5.mono (by have := HSR.out; omega))) (by omega)).mono ?_
      rintro e w6 ⟨rfl, hd6⟩
      have hs6 : w6.heap.size = w5.heap.size := by rw [hd6.heap]
      have HS6 := hide hs6
      clear hs6
      have hg6 : Below w.heap.size w w6 := hgr.trans ((g5.mono (by have := hgr.size; omega)).trans (hd6.below _))
      go_wp2_with fail
      refine (implMapValues a0 l0 c0 z0 b0 f0 w6 ((r0.below hg6).more hg6.size)).mono ?_
      rintro e w7 ⟨A7, m7, d7, qs, rfl, own7, hall7, hpl7, hml7, g7⟩
      obtain rfl : m = m7 := by rw [← HPL.out, ← hpl7]; exact (hall7.length HT.out).symm
      rw [hall7.values HT.out] at own7
      clear hall7 hpl7 hml7
      go_wp2_with fail
      refine (equalIntT _ _ _ _ _ _ _ _ _ w7 ((q4.below (g5.mono (by have := HSR.out; omega))).ofDrew hd6 |>.below (g7.mono (by have := HSR.out; have := HS6.out; omega))) (Rd.of_own own7) (by omega)).mono ?_
      rintro e w8 ⟨rfl, hd8⟩
      go_wp2_with fail
      go_ret
      exact ⟨congrArg (fun b => Ending.returned (Value.bool b)) HZ0.out, hg6.trans ((g7.mono hg6.size).trans (hd8.below _))⟩

set_option maxRecDepth 100000 in
theorem lifted (os : Os) (started : os.Started) (H : Type) (enc : TypeId × Value → H) :
    ReturnsInHanded {} Try.checked os 3 .any (Rows.fnMapKeysAndValuesSpec.pre6 enc Try.prog Try.f3 Rows.fnMapKeysAndValuesRow.domain false) (Rows.fnMapKeysAndValuesSpec.post enc Try.prog Try.f3 false true false false) := by
  refine returnsInHanded_of_change_sized (C := Try.checked) own started (by kernel_rfl) Try.func3
    (ChangeSpec.witness6 (enc := enc) (C := Try.checked) false ⟨#[], #[.slice none 0 0], []⟩ 8 (by kernel_rfl) (by kernel_rfl) (by kernel_rfl) (by kernel_rfl)) ?_
  intro W base args ds gs before hval0 hW _ hsz0 _
  have hsz : (DataW.weightsEach Try.prog (Try.f3.params.toList ++ Rows.fnMapKeysAndValuesSpec.plain.varTypes Try.prog) (ds ++ gs)).all (· ≤ reachBytes) = true := hsz0
  have hval : ∀ (j : Nat) t v, Try.f3.params[j]? = some t → args[j]? = some v → Value.okWide Try.prog W .any base t v := hval0
  have hW' := hW
  obtain ⟨p, q, hA0, hV, rfl, hfz, hnd⟩ := hW
  have hA : DataW.TrodAll enc Try.prog W 0 (fun _ => true) true Try.f3.params.toList args.toList ds p := hA0
  rw [Try.params3] at hA hval hsz
  obtain ⟨v0, vs0, d0, ds0, p0, q0, hargs, rfl, rfl, h0, rr0⟩ := trodAll_cons hA
  obtain ⟨rfl, rfl, rfl⟩ := trodAll_nil rr0
  obtain rfl : args = #[v0] := by cases args; simp_all
  obtain ⟨rfl, rfl⟩ := trodVars_none hV
  have t0 := h0
  have lt0 : ∀ x ∈ p0, x.block < W.heap.size := by obtain ⟨m, hm⟩ := t0; exact DataW.trod_lt m _ _ _ hm
  obtain ⟨a0, l0, c0, z0, rfl, k0, m0, r0, f0, u0, s0⟩ := openPairs (hval 0 22 v0 rfl rfl) h0
  have b0 := s0 (sized_at hsz 0 rfl rfl)
  refine (walk a0 l0 c0 z0 W k0 m0 r0 f0 b0).mono fun e W' ⟨he, bel⟩ => ?_
  subst he
  exact ⟨_, rfl, _, _, _, [], _, [], hW', trodAll_mk1 (shut_bool Try.underlying4 _), (trodAll_cons_mk (Below.trod laidOut (by kernel_rfl) (of_decide_eq_true (by kernel_rfl)) t0 bel lt0) trodAll_mk0), rfl, bel.frame _, fun h => by cases h⟩

theorem over : Rows.fnMapKeysAndValuesRow.holds Try.pinned (OpenSpec.ofChange Rows.fnMapKeysAndValuesSpec) :=
  OpenClaim.holds_of_wide 3 Try.f3 rfl rfl rfl rfl rfl rfl rfl ⟨rfl, rfl, rfl, rfl, rfl⟩ rfl rfl rfl rfl rfl (by kernel_rfl) Try.func3 (by kernel_rfl)
    (of_decide_eq_true (by kernel_rfl)) (by unfold Func.isWrapper; first | (rw [if_pos (by decide +kernel)]; kernel_rfl) | (rw [if_neg (by decide +kernel)]; exact ⟨rfl, rfl⟩))
    (fun os started H enc _ => lifted os started H enc)

/-- the given statement -/
theorem proved : Rows.FnMapKeysAndValuesSaid := over
#print axioms proved
end Go.Proofs.Ytcgcfenenkdhlaa.fnMapKeysAndValues
