/-
  FnMapInsertTwice: the law returns true at every input of at most 1048576 values, and changes nothing that was there.
-/
import Derived.ProofKit
import Derived.OpenShut
import Derived.JoinedCond
import Derived.Deep.CondSized
import Derived.SizedLaws
import Derived.WalkKit
import Derived.WalkLawsBesides
import Derived.Outline
import Derived.Deep.DeepMust
import Derived.Deep.RegionWith
import Derived.Test.YtcgcfenenkdhlaaOpen
import Derived.Test.YtcgcfenenkdhlaaOpenE
import Derived.Test.YtcgcfenenkdhlaaMapC
import Derived.Test.YtcgcfenenkdhlaaEqE
import Derived.Test.YtcgcfenenkdhlaaMapL
namespace Go.Proofs.Ytcgcfenenkdhlaa.fnMapInsertTwice
open Go.ChangeShapes Go.WideShapes Go.ChangeAt Go.RowKit
set_option linter.unusedVariables false
set_option linter.unusedSimpArgs false

set_option maxRecDepth 100000 in
set_option maxHeartbeats 4000000 in
theorem walk (a0 : Option Addr) (l0 c0 : Nat) (z0 : List (Int × Int)) (a1 : Option Addr) (l1 c1 : Nat) (z1 : List (Int × Int)) (a2 : Option Addr) (l2 c2 : Nat) (z2 : List (Int × Int)) (w : World) (k0 : l0 ≤ c0) (m0 : c0 ≤ maxLen) (r0 : Rd w w.heap.size 2 a0 l0 (pairs z0)) (f0 : ∀ x ∈ z0, (Lit.int .i64 x.1).wf = true ∧ (Lit.int .i64 x.2).wf = true) (k1 : l1 ≤ c1) (m1 : c1 ≤ maxLen) (r1 : Rd w w.heap.size 2 a1 l1 (pairs z1)) (f1 : ∀ x ∈ z1, (Lit.int .i64 x.1).wf = true ∧ (Lit.int .i64 x.2).wf = true) (k2 : l2 ≤ c2) (m2 : c2 ≤ maxLen) (r2 : Rd w w.heap.size 2 a2 l2 (pairs z2)) (f2 : ∀ x ∈ z2, (Lit.int .i64 x.1).wf = true ∧ (Lit.int .i64 x.2).wf = true) (bu : l0 + l1 + l2 ≤ 1048576) :
    Calls Try.prog 13 #[.slice a0 l0 c0, .slice a1 l1 c1, .slice a2 l2 c2] w fun e w' => e = .returned (.bool true) ∧ Below w.heap.size w w' := by
  have HZ0 : Hid (z0.length = l0) := hide (by have := r0.1; rw [pairs_length] at this; omega)
  have HZ1 : Hid (z1.length = l1) := hide (by have := r1.1; rw [pairs_length] at this; omega)
  have HZ2 : Hid (z2.length = l2) := hide (by have := r2.1; rw [pairs_length] at this; omega)
  have F0 := hide f0
  have F1 := hide f1
  have F2 := hide f2
  clear f0 f1 f2
  go_enter Try.func13, Try.ntmps13
  go_wp2_with fail
  refine (implMapInsert a0 l0 c0 z0 a1 l1 c1 z1 (by omega) (by omega) F0.out F1.out (by have := size_mp2 z0 z1; have := HZ0.out; have := HZ1.out; omega) w r0 r1).mono ?_
  rintro e w1 ⟨A1, m1, d1, xs, rfl, own1, htab1, hpl1, hml1, g1⟩
  have hs1 := g1.size
  have HX := hide htab1
  have HPX := hide hpl1
  have FX := hide (wf_tab (wf_append F0.out F1.out) htab1)
  have p1 := Rd.of_own own1
  clear htab1 hpl1 own1
  go_wp2_with fail
  refine (implMapInsert A1 m1 d1 xs a2 l2 c2 z2 (by omega) (by omega) FX.out F2.out (by have := size_mp2 xs z2; have := HPX.out; have := HZ2.out; omega) w1 p1 ((r2.below g1).more hs1)).mono ?_
  rintro e w2 ⟨A2, m2, d2, ys, rfl, own2, htab2, hpl2, hml2, g2⟩
  have hs2 := g2.size
  rw [lk_step HX.out] at htab2
  have HY := hide htab2
  have HPY := hide hpl2
  have p2 := Rd.of_own own2
  clear htab2 hpl2 own2
  have G2 : Below w.heap.size w w2 := g1.trans (g2.mono hs1)
  go_wp2_with fail
  refine (joinedE a1 l1 c1 z1 a2 l2 c2 z2 (by omega) w2 ((r1.below G2).more G2.size) ((r2.below G2).more G2.size)).mono ?_
  rintro e w3 ⟨A3, d3, rfl, own3, g3⟩
  have hs3 := g3.size
  have p3 := Rd.of_own own3
  have q2 := p2.below g3
  clear own3
  have G3 : Below w.heap.size w w3 := G2.trans (g3.mono G2.size)
  go_wp2_with fail
  go_loopw [21] (fun i wr => ∃ j : Nat, j ≤ l1 + l2 ∧ i = .int .i64 j ∧ Below w3.heap.size w3 wr) (fun i _ => l1 + l2 - (RowKit.intOf i).toNat)
  case atStart => exact ⟨0, Nat.zero_le _, rfl, Below.refl _ _⟩
  case round =>
    obtain ⟨j, hj, rfl, hB⟩ := hrel
    have hsz := hB.size
    by_cases hlt : j < l1 + l2
    · obtain ⟨b, off, x, y, hA, hb, hx, hcx, hcy⟩ := (p3.below hB).pair hlt
      subst hA
      have HONE : Hid ((ys.map (·.1)).count x = 1) := hide (tab_count HY.out (by rw [List.append_assoc, lk_append]; have := lk_some (List.mem_of_getElem? hx.out); revert this; cases lk (z1 ++ z2) x <;> simp))
      have hBa : Below w3.heap.size w3 (wr.alloc (.cells #[.int .i64 x, .int .i64 y] 35)) := hB.alloc hsz _
      have HK := hide (laws_keys A2 m2 d2 w2.heap.size ys (wr.alloc (.cells #[.int .i64 x, .int .i64 y] 35)).drew (q2.below (hBa.drew.mono hs3)) (by have := hBa.drew.size; omega) (by omega))
      have HL : Hid (wr.heap.size < (wr.alloc (.cells #[.int .i64 x, .int .i64 y] 35)).drew.heap.size) := hide (by show _ < (wr.alloc _).heap.size; simp)
      have HC : Hid ((wr.alloc (.cells #[.int .i64 x, .int .i64 y] 35)).drew.cell? ⟨wr.heap.size, 0, none⟩ = some (.int .i64 x)) := hide (by simp [go_sem])
      go_wp2_with fail
      go_region_with (first
        | (go_at_call 21; refine HK.out.mono ?_; rintro e w5 ⟨A5, d5, rfl, own5, g5⟩; have hc5 : w5.cell? ⟨wr.heap.size, 0, none⟩ = some (.int .i64 x) := (g5.cell (p := ⟨wr.heap.size, 0, none⟩) HL.out).trans HC.out)
        | (go_at_call 33; refine (countOne A5 m2 d5 w5.heap.size (ys.map (·.1)) x _ HONE.out (Rd.of_own own5) ?_).mono ?_; omega; rintro e w6 ⟨rfl, rfl⟩))
      all_goals (go_wp2_with fail)
      all_goals (refine ⟨⟨j + 1, by omega, by go_num, hBa.drew.trans (g5.mono hBa.drew.size)⟩, by simp [RowKit.intOf]; omega⟩)
    · have hlti : ¬ ((j : Int) < (l1 : Int) + (l2 : Int)) := by omega
      have GR : Below w.heap.size w wr := G3.trans (hB.mono G3.size)
      have K2 : Below w2.heap.size w2 wr := g3.trans (hB.mono hs3)
      have K1 : Below w1.heap.size w1 wr := g2.trans (K2.mono hs2)
      have e0 := (r0.below GR).more GR.size
      have e1 := (r1.below GR).more GR.size
      have e2 := (r2.below GR).more GR.size
      have e3 := (p1.below K1).more K1.size
      have e4 := (p2.below K2).more K2.size
      clear p1 p2 p3 q2 g1 g2 g3 G2 G3 hB K1 K2 hs1 hs2 hs3 hsz
      go_wp2_with fail
      refine (implMapInsert A1 m1 d1 xs a1 l1 c1 z1 (by omega) (by omega) FX.out F1.out (by have := size_mp2 xs z1; have := HPX.out; have := HZ1.out; omega) wr e3 e1).mono ?_
      rintro e w5 ⟨A5, m5, d5, us, rfl, own5, htab5, hpl5, hml5, g5⟩
      have hs5 := g5.size
      rw [lk_step HX.out, lk_again] at htab5
      obtain rfl := HX.out.unique htab5
      obtain rfl : m1 = m5 := HPX.out.symm.trans hpl5
      clear htab5 hpl5 hml5
      go_wp2_with fail
      refine (equalE _ _ _ _ _ _ _ _ _ _ w5 (Rd.of_own own5) (e3.below g5) (by omega)).mono ?_
      rintro e w6 ⟨rfl, hd6⟩
      rw [decide_eq_true rfl]
      have K6 : Below wr.heap.size wr w6 := g5.trans (hd6.below _)
      have n1 := (e1.below K6).more K6.size
      have n2 := (e2.below K6).more K6.size
      have hs6 := K6.size
      clear own5 hd6 g5 hs5 e1 e2 e3
      go_wp2_with fail
      refine (joinedE a1 l1 c1 z1 a2 l2 c2 z2 (by omega) w6 n1 n2).mono ?_
      rintro e w7 ⟨A7, d7, rfl, own7, g7⟩
      have K7 := K6.trans (g7.mono hs6)
      have hs7 := g7.size
      go_wp2_with fail
      refine (implMapInsert a0 l0 c0 z0 A7 (l1 + l2) d7 (z1 ++ z2) (by omega) (by omega) F0.out (wf_append F1.out F2.out) (by have h := size_mp2 z0 (z1 ++ z2); rw [List.length_append] at h; have := HZ0.out; have := HZ1.out; have := HZ2.out; omega) w7 ((e0.below K7).more K7.size) (Rd.of_own own7)).mono ?_
      rintro e w8 ⟨A8, m8, d8, vs, rfl, own8, htab8, hpl8, hml8, g8⟩
      rw [← List.append_assoc] at htab8
      obtain rfl := HY.out.unique htab8
      obtain rfl : m2 = m8 := HPY.out.symm.trans hpl8
      clear htab8 hpl8 hml8
      have K8 := K7.trans (g8.mono K7.size)
      go_wp2_with fail
      refine (equalE _ _ _ _ _ _ _ _ _ _ w8 (e4.below K8) (Rd.of_own own8) (by omega)).mono ?_
      rintro e w9 ⟨rfl, hd9⟩
      rw [decide_eq_true rfl]
      go_wp2_with fail
      go_ret
      exact ⟨rfl, GR.trans ((K8.mono GR.size).trans (hd9.below _))⟩

set_option maxRecDepth 100000 in
theorem lifted (os : Os) (started : os.Started) (H : Type) (enc : TypeId × Value → H) (F : Stop.Interp) :
    ReturnsInHanded {} Try.checked os 13 .any ((Rows.OpenSpec.upto Rows.fnMapInsertTwiceSpec).pre6 enc Try.prog Try.f13 Rows.fnMapInsertTwiceUptoRow.domain false) (((Rows.OpenSpec.upto Rows.fnMapInsertTwiceSpec).at F).post enc Try.prog Try.f13 false true false false) := by
  refine returnsInHanded_of_cond (C := Try.checked) (s := (Rows.OpenSpec.upto Rows.fnMapInsertTwiceSpec)) (k := Rows.uptoSmall) rfl own started (by kernel_rfl) Try.func13
    (OpenSpec.witness (enc := enc) (C := Try.checked) (s := (Rows.OpenSpec.upto Rows.fnMapInsertTwiceSpec)) (k := Rows.uptoSmall) rfl false ⟨#[], #[.slice none 0 0, .slice none 0 0, .slice none 0 0], []⟩ 8 (by kernel_rfl) (by kernel_rfl) (by kernel_rfl)
      (x := ([.nil, .nil, .nil], [], [])) (by kernel_rfl) rfl (by kernel_rfl)) ?_
  intro W base args ds gs before hval0 hW _ hk0 _
  have hk := bulk_bound hk0
  have hval : ∀ (j : Nat) t v, Try.f13.params[j]? = some t → args[j]? = some v → Value.okWide Try.prog W .any base t v := hval0
  have hW' := hW
  obtain ⟨p, q, hA0, hV, rfl, hfz, hnd⟩ := hW
  have hA : DataW.TrodAll enc Try.prog W 0 (fun _ => true) true Try.f13.params.toList args.toList ds p := hA0
  rw [Try.params13] at hA hval
  obtain ⟨v0, vs0, d0, ds0, p0, q0, hargs, rfl, rfl, h0, rr0⟩ := trodAll_cons hA
  obtain ⟨v1, vs1, d1, ds1, p1, q1, rfl, rfl, rfl, h1, rr1⟩ := trodAll_cons rr0
  obtain ⟨v2, vs2, d2, ds2, p2, q2, rfl, rfl, rfl, h2, rr2⟩ := trodAll_cons rr1
  obtain ⟨rfl, rfl, rfl⟩ := trodAll_nil rr2
  obtain rfl : args = #[v0, v1, v2] := by cases args; simp_all
  obtain ⟨rfl, rfl⟩ := trodVars_none hV
  have t0 := h0
  have lt0 : ∀ x ∈ p0, x.block < W.heap.size := by obtain ⟨m, hm⟩ := t0; exact DataW.trod_lt m _ _ _ hm
  obtain ⟨a0, l0, c0, z0, rfl, k0, m0, r0, f0, u0, s0⟩ := openPairs (hval 0 22 v0 rfl rfl) h0
  have t1 := h1
  have lt1 : ∀ x ∈ p1, x.block < W.heap.size := by obtain ⟨m, hm⟩ := t1; exact DataW.trod_lt m _ _ _ hm
  obtain ⟨a1, l1, c1, z1, rfl, k1, m1, r1, f1, u1, s1⟩ := openPairs (hval 1 22 v1 rfl rfl) h1
  have t2 := h2
  have lt2 : ∀ x ∈ p2, x.block < W.heap.size := by obtain ⟨m, hm⟩ := t2; exact DataW.trod_lt m _ _ _ hm
  obtain ⟨a2, l2, c2, z2, rfl, k2, m2, r2, f2, u2, s2⟩ := openPairs (hval 2 22 v2 rfl rfl) h2
  simp only [List.cons_append, List.nil_append, List.append_nil, Rows.uptoBulkAll] at hk
  have bu : l0 + l1 + l2 ≤ 1048576 := by omega
  refine (walk a0 l0 c0 z0 a1 l1 c1 z1 a2 l2 c2 z2 W k0 m0 r0 f0 k1 m1 r1 f1 k2 m2 r2 f2 bu).mono fun e W' ⟨he, bel⟩ => ?_
  subst he
  exact ⟨_, rfl, _, _, _, [], _, [], hW', trodAll_mk1 (shut_bool Try.underlying4 _), (trodAll_cons_mk (Below.trod laidOut (by kernel_rfl) (of_decide_eq_true (by kernel_rfl)) t0 bel lt0) (trodAll_cons_mk (Below.trod laidOut (by kernel_rfl) (of_decide_eq_true (by kernel_rfl)) t1 bel lt1) (trodAll_cons_mk (Below.trod laidOut (by kernel_rfl) (of_decide_eq_true (by kernel_rfl)) t2 bel lt2) trodAll_mk0))), rfl, bel.frame _, fun h => by cases h⟩

theorem over : Rows.fnMapInsertTwiceUptoRow.holds Try.pinned (Rows.OpenSpec.upto Rows.fnMapInsertTwiceSpec) :=
  OpenClaim.holds_of_cond 13 Try.f13 rfl rfl rfl rfl rfl rfl rfl ⟨rfl, rfl, rfl, rfl, rfl⟩ rfl rfl rfl rfl rfl (by kernel_rfl) Try.func13 (by kernel_rfl)
    (of_decide_eq_true (by kernel_rfl)) (by unfold Func.isWrapper; first | (rw [if_pos (by decide +kernel)]; kernel_rfl) | (rw [if_neg (by decide +kernel)]; exact ⟨rfl, rfl⟩))
    (fun os started H enc _ F => lifted os started H enc F)

/-- the given statement -/
theorem proved : Rows.FnMapInsertTwiceUptoSaid := over
#print axioms proved
end Go.Proofs.Ytcgcfenenkdhlaa.fnMapInsertTwice
