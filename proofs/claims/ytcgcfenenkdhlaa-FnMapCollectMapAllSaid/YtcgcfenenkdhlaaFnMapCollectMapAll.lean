/-
  FnMapCollectMapAll: the law returns true at every input, and changes nothing that was there.
-/
import Derived.ProofKit
import Derived.OpenShut
import Derived.JoinedCond
import Derived.Deep.CondSized
import Derived.SizedLaws
import Derived.WalkKit
import Derived.WalkLawsBesides
import Derived.Outline
import Derived.Deep.DeepMust
import Derived.Deep.RegionWith
import Derived.Test.YtcgcfenenkdhlaaOpen
import Derived.Test.YtcgcfenenkdhlaaOpenE
import Derived.Test.YtcgcfenenkdhlaaMapC
import Derived.Test.YtcgcfenenkdhlaaMapA
import Derived.Test.YtcgcfenenkdhlaaEqE
namespace Go.Proofs.Ytcgcfenenkdhlaa.fnMapCollectMapAll
open Go.ChangeShapes Go.WideShapes Go.ChangeAt Go.RowKit
set_option linter.unusedVariables false
set_option linter.unusedSimpArgs false

theorem tab_self {ts : List (Int × Int)} {f : Int → Option Int} (h : Tab ts f) {us : List (Int × Int)} (hu : Tab us (lk ts)) : us = ts := by
  have e : lk ts = f := funext fun k => h.lk k
  rw [e] at hu
  exact hu.unique h
theorem tab_over {zs ts us : List (Int × Int)} (h : Tab ts (lk zs)) (hu : Tab us (lk (zs ++ ts))) : us = ts := by
  have e : lk (zs ++ ts) = lk zs := funext fun k => by rw [lk_append, h.lk k]; cases lk zs k <;> rfl
  rw [e] at hu
  exact hu.unique h
theorem tab_zero {ts zs : List (Int × Int)} (h : Tab ts (lk zs)) : (zs.length = 0) ↔ (ts.length = 0) := by
  constructor
  · intro hz
    have hz' : zs = [] := List.eq_nil_of_length_eq_zero hz
    subst hz'
    cases ts with
    | nil => rfl
    | cons p ts => have := (h.mem p.1 p.2).1 List.mem_cons_self; simp [lk] at this
  · intro ht
    have ht' : ts = [] := List.eq_nil_of_length_eq_zero ht
    subst ht'
    induction zs using snocInd with
    | nil => rfl
    | snoc l e _ =>
      have := (h.mem e.1 e.2).2 (by rw [lk_snoc, if_pos rfl])
      cases this
set_option maxRecDepth 100000 in
set_option maxHeartbeats 4000000 in
theorem walk (a0 : Option Addr) (l0 c0 : Nat) (z0 : List (Int × Int)) (w : World) (k0 : l0 ≤ c0) (m0 : c0 ≤ maxLen) (r0 : Rd w w.heap.size 2 a0 l0 (pairs z0)) (f0 : ∀ x ∈ z0, (Lit.int .i64 x.1).wf = true ∧ (Lit.int .i64 x.2).wf = true) (b0 : l0 * 16 ≤ 140737488351232) :
    Calls Try.prog 15 #[.slice a0 l0 c0] w fun e w' => e = .returned (.bool true) ∧ Below w.heap.size w w' := by
  have hz0 : z0.length = l0 := by have := r0.1; rw [pairs_length] at this; omega
  have HZ0 := hide hz0
  clear hz0
  go_enter Try.func15, Try.ntmps15
  go_wp2_with fail
  refine (implMapAll a0 l0 c0 z0 b0 f0 w r0).mono ?_
  rintro e w1 ⟨A1, m, d1, ts, rfl, own1, htab1, hpl, hml, g1⟩
  have hs1 := g1.size
  have HT := hide htab1
  have HPL := hide hpl
  have HF := hide (wf_tab f0 htab1)
  have HE : Hid ((((l0 : Int) == 0) == ((m : Int) == 0)) = true) := hide (by
    have h1 := tab_zero htab1
    rw [HZ0.out, hpl] at h1
    by_cases hh : m = 0
    · have := h1.2 hh; subst hh; subst this; rfl
    · have h3 : l0 ≠ 0 := fun e => hh (h1.1 e)
      rw [show ((l0 : Int) == 0) = false by simpa using h3, show ((m : Int) == 0) = false by simpa using hh]; rfl)
  clear htab1 hpl
  have p1 := Rd.of_own own1
  clear own1
  go_wp2_with fail
  refine (implMapCollect A1 m d1 ts (by omega) HF.out w1 p1).mono ?_
  rintro e w2 ⟨A2, m2, d2, us, rfl, own2, htab2, hpl2, hml2, g2⟩
  have hs2 := g2.size
  obtain rfl := tab_self HT.out htab2
  obtain rfl : m = m2 := HPL.out.symm.trans hpl2
  clear htab2 hpl2 hml2
  go_wp2_with fail
  refine (equalE _ _ _ _ _ _ _ _ _ _ w2 (Rd.of_own own2) ((p1.below g2)) (by omega)).mono ?_
  rintro e w3 ⟨rfl, hd3⟩
  rw [decide_eq_true rfl]
  have G3 : Below w.heap.size w w3 := g1.trans ((g2.mono hs1).trans (hd3.below _))
  have k3 : Below w1.heap.size w1 w3 := g2.trans (hd3.below _)
  have hs3 := k3.size
  have p3 := (p1.below k3).more hs3
  clear own2 hd3 g2 hs2
  go_wp2_with fail
  refine (implMapInsert a0 l0 c0 z0 A1 m d1 us b0 (by omega) f0 HF.out (by have := size_tab HT.out; have := HZ0.out; omega) w3 ((r0.below G3).more G3.size) p3).mono ?_
  rintro e w4 ⟨A4, m4, d4, vs, rfl, own4, htab4, hpl4, hml4, g4⟩
  have hs4 := g4.size
  obtain rfl := tab_over HT.out htab4
  obtain rfl : m = m4 := HPL.out.symm.trans hpl4
  clear htab4 hpl4 hml4
  go_wp2_with fail
  refine (equalE _ _ _ _ _ _ _ _ _ _ w4 (Rd.of_own own4) (p3.below g4) (by omega)).mono ?_
  rintro e w5 ⟨rfl, hd5⟩
  rw [decide_eq_true rfl]
  have G5 : Below w.heap.size w w5 := G3.trans ((g4.mono G3.size).trans (hd5.below _))
  have k5 : Below w3.heap.size w3 w5 := g4.trans (hd5.below _)
  have hs5 := k5.size
  have p5 := (p3.below k5).more hs5
  clear own4 hd5 g4 hs4
  go_wp2_with fail
  refine (implMapInsert none 0 0 [] A1 m d1 vs (by omega) (by omega) (by simp [WF]) HF.out (by have := size_mp2 [] vs; have := HPL.out; simp at *; omega) w5 (Rd.zero) p5).mono ?_
  rintro e w6 ⟨A6, m6, d6, xs, rfl, own6, htab6, hpl6, hml6, g6⟩
  have hs6 := g6.size
  obtain rfl := tab_self HT.out htab6
  obtain rfl : m = m6 := HPL.out.symm.trans hpl6
  clear htab6 hpl6 hml6
  have G6 := G5.trans (g6.mono G5.size)
  have p6 := (p5.below g6).more hs6
  have q6 := Rd.of_own own6
  clear own6
  go_wp2_with fail
  refine (implMapCollect A1 m d1 xs (by omega) HF.out w6 p6).mono ?_
  rintro e w7 ⟨A7, m7, d7, ys, rfl, own7, htab7, hpl7, hml7, g7⟩
  have hs7 := g7.size
  obtain rfl := tab_self HT.out htab7
  obtain rfl : m = m7 := HPL.out.symm.trans hpl7
  clear htab7 hpl7 hml7
  go_wp2_with fail
  refine (equalE _ _ _ _ _ _ _ _ _ _ w7 (q6.below g7) (Rd.of_own own7) (by omega)).mono ?_
  rintro e w8 ⟨rfl, hd8⟩
  rw [decide_eq_true rfl]
  have G8 : Below w.heap.size w w8 := G6.trans ((g7.mono G6.size).trans (hd8.below _))
  go_wp2_with fail
  go_ret
  exact ⟨congrArg (fun b => Ending.returned (Value.bool b)) HE.out, G8⟩

set_option maxRecDepth 100000 in
theorem lifted (os : Os) (started : os.Started) (H : Type) (enc : TypeId × Value → H) :
    ReturnsInHanded {} Try.checked os 15 .any (Rows.fnMapCollectMapAllSpec.pre6 enc Try.prog Try.f15 Rows.fnMapCollectMapAllRow.domain false) (Rows.fnMapCollectMapAllSpec.post enc Try.prog Try.f15 false true false false) := by
  refine returnsInHanded_of_change_sized (C := Try.checked) own started (by kernel_rfl) Try.func15
    (ChangeSpec.witness6 (enc := enc) (C := Try.checked) false ⟨#[], #[.slice none 0 0], []⟩ 8 (by kernel_rfl) (by kernel_rfl) (by kernel_rfl) (by kernel_rfl)) ?_
  intro W base args ds gs before hval0 hW _ hsz0 _
  have hsz : (DataW.weightsEach Try.prog (Try.f15.params.toList ++ Rows.fnMapCollectMapAllSpec.plain.varTypes Try.prog) (ds ++ gs)).all (· ≤ reachBytes) = true := hsz0
  have hval : ∀ (j : Nat) t v, Try.f15.params[j]? = some t → args[j]? = some v → Value.okWide Try.prog W .any base t v := hval0
  have hW' := hW
  obtain ⟨p, q, hA0, hV, rfl, hfz, hnd⟩ := hW
  have hA : DataW.TrodAll enc Try.prog W 0 (fun _ => true) true Try.f15.params.toList args.toList ds p := hA0
  rw [Try.params15] at hA hval hsz
  obtain ⟨v0, vs0, d0, ds0, p0, q0, hargs, rfl, rfl, h0, rr0⟩ := trodAll_cons hA
  obtain ⟨rfl, rfl, rfl⟩ := trodAll_nil rr0
  obtain rfl : args = #[v0] := by cases args; simp_all
  obtain ⟨rfl, rfl⟩ := trodVars_none hV
  have t0 := h0
  have lt0 : ∀ x ∈ p0, x.block < W.heap.size := by obtain ⟨m, hm⟩ := t0; exact DataW.trod_lt m _ _ _ hm
  obtain ⟨a0, l0, c0, z0, rfl, k0, m0, r0, f0, u0, s0⟩ := openPairs (hval 0 22 v0 rfl rfl) h0
  have b0 := s0 (sized_at hsz 0 rfl rfl)
  refine (walk a0 l0 c0 z0 W k0 m0 r0 f0 b0).mono fun e W' ⟨he, bel⟩ => ?_
  subst he
  exact ⟨_, rfl, _, _, _, [], _, [], hW', trodAll_mk1 (shut_bool Try.underlying4 _), (trodAll_cons_mk (Below.trod laidOut (by kernel_rfl) (of_decide_eq_true (by kernel_rfl)) t0 bel lt0) trodAll_mk0), rfl, bel.frame _, fun h => by cases h⟩

theorem over : Rows.fnMapCollectMapAllRow.holds Try.pinned (OpenSpec.ofChange Rows.fnMapCollectMapAllSpec) :=
  OpenClaim.holds_of_wide 15 Try.f15 rfl rfl rfl rfl rfl rfl rfl ⟨rfl, rfl, rfl, rfl, rfl⟩ rfl rfl rfl rfl rfl (by kernel_rfl) Try.func15 (by kernel_rfl)
    (of_decide_eq_true (by kernel_rfl)) (by unfold Func.isWrapper; first | (rw [if_pos (by decide +kernel)]; kernel_rfl) | (rw [if_neg (by decide +kernel)]; exact ⟨rfl, rfl⟩))
    (fun os started H enc _ => lifted os started H enc)

/-- the given statement -/
theorem proved : Rows.FnMapCollectMapAllSaid := over
#print axioms proved
end Go.Proofs.Ytcgcfenenkdhlaa.fnMapCollectMapAll
