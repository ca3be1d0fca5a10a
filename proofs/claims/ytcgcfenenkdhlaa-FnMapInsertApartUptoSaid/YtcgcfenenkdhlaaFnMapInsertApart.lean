/-
  FnMapInsertApart: the law returns true at every input of at most 1048576 values, and changes nothing that was there.
-/
import Derived.ProofKit
import Derived.OpenShut
import Derived.JoinedCond
import Derived.Deep.CondSized
import Derived.SizedLaws
import Derived.WalkKit
import Derived.WalkLawsBesides
import Derived.Outline
import Derived.Deep.DeepMust
import Derived.Deep.RegionWith
import Derived.Test.YtcgcfenenkdhlaaOpen
import Derived.Test.YtcgcfenenkdhlaaOpenE
import Derived.Test.YtcgcfenenkdhlaaMapC
import Derived.Test.YtcgcfenenkdhlaaEqE
import Derived.Test.YtcgcfenenkdhlaaMapL
namespace Go.Proofs.Ytcgcfenenkdhlaa.fnMapInsertApart
open Go.ChangeShapes Go.WideShapes Go.ChangeAt Go.RowKit
set_option linter.unusedVariables false
set_option linter.unusedSimpArgs false

set_option maxRecDepth 100000 in
set_option maxHeartbeats 4000000 in
theorem walk (a0 : Option Addr) (l0 c0 : Nat) (z0 : List (Int × Int)) (a1 : Option Addr) (l1 c1 : Nat) (z1 : List (Int × Int)) (a2 : Option Addr) (l2 c2 : Nat) (z2 : List (Int × Int)) (w : World) (k0 : l0 ≤ c0) (m0 : c0 ≤ maxLen) (r0 : Rd w w.heap.size 2 a0 l0 (pairs z0)) (f0 : ∀ x ∈ z0, (Lit.int .i64 x.1).wf = true ∧ (Lit.int .i64 x.2).wf = true) (k1 : l1 ≤ c1) (m1 : c1 ≤ maxLen) (r1 : Rd w w.heap.size 2 a1 l1 (pairs z1)) (f1 : ∀ x ∈ z1, (Lit.int .i64 x.1).wf = true ∧ (Lit.int .i64 x.2).wf = true) (k2 : l2 ≤ c2) (m2 : c2 ≤ maxLen) (r2 : Rd w w.heap.size 2 a2 l2 (pairs z2)) (f2 : ∀ x ∈ z2, (Lit.int .i64 x.1).wf = true ∧ (Lit.int .i64 x.2).wf = true) (bu : l0 + l1 + l2 ≤ 1048576) :
    Calls Try.prog 12 #[.slice a0 l0 c0, .slice a1 l1 c1, .slice a2 l2 c2] w fun e w' => e = .returned (.bool true) ∧ Below w.heap.size w w' := by
  have HZ0 : Hid (z0.length = l0) := hide (by have := r0.1; rw [pairs_length] at this; omega)
  have HZ1 : Hid (z1.length = l1) := hide (by have := r1.1; rw [pairs_length] at this; omega)
  have HZ2 : Hid (z2.length = l2) := hide (by have := r2.1; rw [pairs_length] at this; omega)
  have F0 := hide f0
  have F1 := hide f1
  have F2 := hide f2
  clear f0 f1 f2
  go_enter Try.func12, Try.ntmps12
  go_wp2_with fail
  refine (implMapInsert a0 l0 c0 z0 a1 l1 c1 z1 (by omega) (by omega) F0.out F1.out (by have := size_mp2 z0 z1; have := HZ0.out; have := HZ1.out; omega) w r0 r1).mono ?_
  rintro e w1 ⟨A1, m1, d1, xs, rfl, own1, htab1, hpl1, hml1, g1⟩
  have hs1 := g1.size
  have HX := hide htab1
  have HPX := hide hpl1
  have FX := hide (wf_tab (wf_append F0.out F1.out) htab1)
  have p1 := Rd.of_own own1
  clear htab1 hpl1 own1
  go_wp2_with fail
  refine (implMapInsert A1 m1 d1 xs a2 l2 c2 z2 (by omega) (by omega) FX.out F2.out (by have := size_mp2 xs z2; have := HPX.out; have := HZ2.out; omega) w1 p1 ((r2.below g1).more hs1)).mono ?_
  rintro e w2 ⟨A2, m2, d2, ys, rfl, own2, htab2, hpl2, hml2, g2⟩
  have hs2 := g2.size
  rw [lk_step HX.out] at htab2
  have HY := hide htab2
  have HPY := hide hpl2
  have p2 := Rd.of_own own2
  clear htab2 hpl2 own2
  have G2 : Below w.heap.size w w2 := g1.trans (g2.mono hs1)
  go_wp2_with fail
  refine (joinedE a1 l1 c1 z1 a2 l2 c2 z2 (by omega) w2 ((r1.below G2).more G2.size) ((r2.below G2).more G2.size)).mono ?_
  rintro e w4 ⟨A4, d4, rfl, own4, g4⟩
  have hs4 := g4.size
  have G4 : Below w.heap.size w w4 := G2.trans (g4.mono G2.size)
  go_wp2_with fail
  refine (joinedE a0 l0 c0 z0 A4 (l1 + l2) d4 (z1 ++ z2) (by omega) w4 ((r0.below G4).more G4.size) (Rd.of_own own4)).mono ?_
  rintro e w3 ⟨A3, d3, rfl, own3, g3⟩
  have hs3 := g3.size
  have hs43 := Nat.le_trans hs4 hs3
  have p3 := Rd.of_own own3
  have q2 := p2.below (g4.trans (g3.mono hs4))
  have g43 : Below w2.heap.size w2 w3 := g4.trans (g3.mono hs4)
  clear own3 own4
  have G3 : Below w.heap.size w w3 := G2.trans (g43.mono G2.size)
  go_wp2_with fail
  go_loopw [23] (fun i wr => ∃ j : Nat, j ≤ l0 + (l1 + l2) ∧ i = .int .i64 j ∧ Below w3.heap.size w3 wr) (fun i _ => l0 + (l1 + l2) - (RowKit.intOf i).toNat)
  case atStart => exact ⟨0, Nat.zero_le _, rfl, Below.refl _ _⟩
  case round =>
    obtain ⟨j, hj, rfl, hB⟩ := hrel
    have hsz := hB.size
    by_cases hlt : j < l0 + (l1 + l2)
    · obtain ⟨b, off, x, y, hA, hb, hx, hcx, hcy⟩ := (p3.below hB).pair hlt
      subst hA
      have HONE : Hid ((ys.map (·.1)).count x = 1) := hide (tab_count HY.out (by rw [List.append_assoc]; exact lk_some (List.mem_of_getElem? hx.out)))
      have hBa : Below w3.heap.size w3 (wr.alloc (.cells #[.int .i64 x, .int .i64 y] 35)) := hB.alloc hsz _
      have HK := hide (laws_keys A2 m2 d2 w2.heap.size ys (wr.alloc (.cells #[.int .i64 x, .int .i64 y] 35)).drew (q2.below (hBa.drew.mono hs43)) (by have := hBa.drew.size; omega) (by omega))
      have HL : Hid (wr.heap.size < (wr.alloc (.cells #[.int .i64 x, .int .i64 y] 35)).drew.heap.size) := hide (by show _ < (wr.alloc _).heap.size; simp)
      have HC : Hid ((wr.alloc (.cells #[.int .i64 x, .int .i64 y] 35)).drew.cell? ⟨wr.heap.size, 0, none⟩ = some (.int .i64 x)) := hide (by simp [go_sem])
      go_wp2_with fail
      go_region_with (first
        | (go_at_call 21; refine HK.out.mono ?_; rintro e w5 ⟨A5, d5, rfl, own5, g5⟩; have hc5 : w5.cell? ⟨wr.heap.size, 0, none⟩ = some (.int .i64 x) := (g5.cell (p := ⟨wr.heap.size, 0, none⟩) HL.out).trans HC.out)
        | (go_at_call 33; refine (countOne A5 m2 d5 w5.heap.size (ys.map (·.1)) x _ HONE.out (Rd.of_own own5) ?_).mono ?_; omega; rintro e w6 ⟨rfl, rfl⟩))
      all_goals (go_wp2_with fail)
      all_goals (refine ⟨⟨j + 1, by omega, by go_num, hBa.drew.trans (g5.mono hBa.drew.size)⟩, by simp [RowKit.intOf]; omega⟩)
    · have hlti : ¬ ((j : Int) < (l0 : Int) + ((l1 : Int) + (l2 : Int))) := by omega
      have GR : Below w.heap.size w wr := G3.trans (hB.mono G3.size)
      have K2 : Below w2.heap.size w2 wr := g43.trans (hB.mono hs43)
      have e0 := (r0.below GR).more GR.size
      have e1 := (r1.below GR).more GR.size
      have e2 := (r2.below GR).more GR.size
      have e4 := (p2.below K2).more K2.size
      clear p1 p2 p3 q2 g1 g2 g3 g4 g43 G2 G3 G4 hB K2 hs1 hs2 hs3 hs4 hs43 hsz
      obtain ⟨wR, hwR⟩ : ∃ wR, wR = wr := ⟨_, rfl⟩
      rw [← hwR] at GR e0 e1 e2 e4 ⊢
      clear hwR
      go_wp2_with fail
      go_loopw [36] (fun i wr => ∃ j : Nat, j ≤ l1 ∧ i = .int .i64 j ∧ Below wR.heap.size wR wr ∧ Hid (∀ e ∈ z1.take j, e.1 ∉ z2.map (·.1))) (fun i _ => l1 - (RowKit.intOf i).toNat)
      case atStart => exact ⟨0, Nat.zero_le _, rfl, Below.refl _ _, hide (by simp)⟩
      case round =>
        obtain ⟨i, hi, rfl, hB, hno⟩ := hrel
        have hsz := hB.size
        by_cases hlt2 : i < l1
        · obtain ⟨b, off, x, y, hA, hb, hx, hcx, hcy⟩ := (e1.below hB).pair hlt2
          subst hA
          have hBa : Below wR.heap.size wR (wr.alloc (.cells #[.int .i64 x, .int .i64 y] 35)) := hB.alloc hsz _
          have HK := hide (laws_keys a2 l2 c2 wR.heap.size z2 (wr.alloc (.cells #[.int .i64 x, .int .i64 y] 35)).drew (e2.below hBa.drew) hBa.drew.size (by omega))
          have HL : Hid (wr.heap.size < (wr.alloc (.cells #[.int .i64 x, .int .i64 y] 35)).drew.heap.size) := hide (by show _ < (wr.alloc _).heap.size; simp)
          have HC : Hid ((wr.alloc (.cells #[.int .i64 x, .int .i64 y] 35)).drew.cell? ⟨wr.heap.size, 0, none⟩ = some (.int .i64 x)) := hide (by simp [go_sem])
          by_cases hin : x ∈ z2.map (·.1)
          · obtain ⟨q, hq, hq0⟩ : ∃ q : Nat, (z2.map (·.1)).count x = q ∧ 0 < q := ⟨_, rfl, List.count_pos_iff.2 hin⟩
            have HQ := hide hq
            have hqi : (0 : Int) < (q : Int) := by omega
            clear hq hin
            go_wp2_with fail
            go_region_with (first
              | (go_at_call 21; refine HK.out.mono ?_; rintro e w5 ⟨A5, d5, rfl, own5, g5⟩; have hc5 : w5.cell? ⟨wr.heap.size, 0, none⟩ = some (.int .i64 x) := (g5.cell (p := ⟨wr.heap.size, 0, none⟩) HL.out).trans HC.out)
              | (go_at_call 33; refine (countQ A5 l2 d5 w5.heap.size (z2.map (·.1)) x q _ HQ.out (Rd.of_own own5) ?_).mono ?_; omega; rintro e w6 ⟨rfl, rfl⟩))
            all_goals (go_wp2_with fail)
            all_goals (go_ret; exact ⟨rfl, GR.trans ((hBa.drew.trans (g5.mono hBa.drew.size)).mono GR.size)⟩)
          · have HQ : Hid ((z2.map (·.1)).count x = 0) := hide (List.count_eq_zero.2 hin)
            have HIN := hide hin
            clear hin
            go_wp2_with fail
            go_region_with (first
              | (go_at_call 21; refine HK.out.mono ?_; rintro e w5 ⟨A5, d5, rfl, own5, g5⟩; have hc5 : w5.cell? ⟨wr.heap.size, 0, none⟩ = some (.int .i64 x) := (g5.cell (p := ⟨wr.heap.size, 0, none⟩) HL.out).trans HC.out)
              | (go_at_call 33; refine (countZ A5 l2 d5 w5.heap.size (z2.map (·.1)) x _ HQ.out (Rd.of_own own5) ?_).mono ?_; omega; rintro e w6 ⟨rfl, rfl⟩))
            all_goals (go_wp2_with fail)
            all_goals (refine ⟨⟨i + 1, by omega, by go_num, hBa.drew.trans (g5.mono hBa.drew.size), hide (no_snoc hx.out hno.out HIN.out)⟩, by simp [RowKit.intOf]; omega⟩)
        · have hlti2 : ¬ ((i : Int) < (l1 : Int)) := by omega
          have HAP : Hid (lk (z0 ++ z1 ++ z2) = lk (z0 ++ z2 ++ z1)) := hide (lk_apart (by have := hno.out; rwa [List.take_of_length_le (by rw [HZ1.out]; omega)] at this))
          have G5 := GR.trans (hB.mono GR.size)
          have n0 := (e0.below hB).more hsz
          have n1 := (e1.below hB).more hsz
          have n2 := (e2.below hB).more hsz
          have n4 := (e4.below hB).more hsz
          clear e0 e1 e2 e4 hB hno GR
          go_wp2_with fail
          refine (implMapInsert a0 l0 c0 z0 a2 l2 c2 z2 (by omega) (by omega) F0.out F2.out (by have := size_mp2 z0 z2; have := HZ0.out; have := HZ2.out; omega) wr n0 n2).mono ?_
          rintro e w5 ⟨A5, m5, d5, us, rfl, own5, htab5, hpl5, hml5, g5⟩
          have hs5 := g5.size
          have HU := hide htab5
          have HPU := hide hpl5
          have FU := hide (wf_tab (wf_append F0.out F2.out) htab5)
          clear htab5 hpl5
          go_wp2_with fail
          refine (implMapInsert A5 m5 d5 us a1 l1 c1 z1 (by omega) (by omega) FU.out F1.out (by have := size_mp2 us z1; have := HPU.out; have := HZ1.out; omega) w5 (Rd.of_own own5) ((n1.below g5).more hs5)).mono ?_
          rintro e w6 ⟨A6, m6, d6, vs, rfl, own6, htab6, hpl6, hml6, g6⟩
          rw [lk_step HU.out, ← HAP.out] at htab6
          obtain rfl := HY.out.unique htab6
          obtain rfl : m2 = m6 := HPY.out.symm.trans hpl6
          clear htab6 hpl6 hml6
          have K6 := g5.trans (g6.mono hs5)
          go_wp2_with fail
          refine (equalE _ _ _ _ _ _ _ _ _ _ w6 (n4.below K6) (Rd.of_own own6) (by omega)).mono ?_
          rintro e w7 ⟨rfl, hd7⟩
          rw [decide_eq_true rfl]
          go_wp2_with fail
          go_ret
          exact ⟨rfl, G5.trans ((K6.mono G5.size).trans (hd7.below _))⟩

set_option maxRecDepth 100000 in
theorem lifted (os : Os) (started : os.Started) (H : Type) (enc : TypeId × Value → H) (F : Stop.Interp) :
    ReturnsInHanded {} Try.checked os 12 .any ((Rows.OpenSpec.upto Rows.fnMapInsertApartSpec).pre6 enc Try.prog Try.f12 Rows.fnMapInsertApartUptoRow.domain false) (((Rows.OpenSpec.upto Rows.fnMapInsertApartSpec).at F).post enc Try.prog Try.f12 false true false false) := by
  refine returnsInHanded_of_cond (C := Try.checked) (s := (Rows.OpenSpec.upto Rows.fnMapInsertApartSpec)) (k := Rows.uptoSmall) rfl own started (by kernel_rfl) Try.func12
    (OpenSpec.witness (enc := enc) (C := Try.checked) (s := (Rows.OpenSpec.upto Rows.fnMapInsertApartSpec)) (k := Rows.uptoSmall) rfl false ⟨#[], #[.slice none 0 0, .slice none 0 0, .slice none 0 0], []⟩ 8 (by kernel_rfl) (by kernel_rfl) (by kernel_rfl)
      (x := ([.nil, .nil, .nil], [], [])) (by kernel_rfl) rfl (by kernel_rfl)) ?_
  intro W base args ds gs before hval0 hW _ hk0 _
  have hk := bulk_bound hk0
  have hval : ∀ (j : Nat) t v, Try.f12.params[j]? = some t → args[j]? = some v → Value.okWide Try.prog W .any base t v := hval0
  have hW' := hW
  obtain ⟨p, q, hA0, hV, rfl, hfz, hnd⟩ := hW
  have hA : DataW.TrodAll enc Try.prog W 0 (fun _ => true) true Try.f12.params.toList args.toList ds p := hA0
  rw [Try.params12] at hA hval
  obtain ⟨v0, vs0, d0, ds0, p0, q0, hargs, rfl, rfl, h0, rr0⟩ := trodAll_cons hA
  obtain ⟨v1, vs1, d1, ds1, p1, q1, rfl, rfl, rfl, h1, rr1⟩ := trodAll_cons rr0
  obtain ⟨v2, vs2, d2, ds2, p2, q2, rfl, rfl, rfl, h2, rr2⟩ := trodAll_cons rr1
  obtain ⟨rfl, rfl, rfl⟩ := trodAll_nil rr2
  obtain rfl : args = #[v0, v1, v2] := by cases args; simp_all
  obtain ⟨rfl, rfl⟩ := trodVars_none hV
  have t0 := h0
  have lt0 : ∀ x ∈ p0, x.block < W.heap.size := by obtain ⟨m, hm⟩ := t0; exact DataW.trod_lt m _ _ _ hm
  obtain ⟨a0, l0, c0, z0, rfl, k0, m0, r0, f0, u0, s0⟩ := openPairs (hval 0 22 v0 rfl rfl) h0
  have t1 := h1
  have lt1 : ∀ x ∈ p1, x.block < W.heap.size := by obtain ⟨m, hm⟩ := t1; exact DataW.trod_lt m _ _ _ hm
  obtain ⟨a1, l1, c1, z1, rfl, k1, m1, r1, f1, u1, s1⟩ := openPairs (hval 1 22 v1 rfl rfl) h1
  have t2 := h2
  have lt2 : ∀ x ∈ p2, x.block < W.heap.size := by obtain ⟨m, hm⟩ := t2; exact DataW.trod_lt m _ _ _ hm
  obtain ⟨a2, l2, c2, z2, rfl, k2, m2, r2, f2, u2, s2⟩ := openPairs (hval 2 22 v2 rfl rfl) h2
  simp only [List.cons_append, List.nil_append, List.append_nil, Rows.uptoBulkAll] at hk
  have bu : l0 + l1 + l2 ≤ 1048576 := by omega
  refine (walk a0 l0 c0 z0 a1 l1 c1 z1 a2 l2 c2 z2 W k0 m0 r0 f0 k1 m1 r1 f1 k2 m2 r2 f2 bu).mono fun e W' ⟨he, bel⟩ => ?_
  subst he
  exact ⟨_, rfl, _, _, _, [], _, [], hW', trodAll_mk1 (shut_bool Try.underlying4 _), (trodAll_cons_mk (Below.trod laidOut (by kernel_rfl) (of_decide_eq_true (by kernel_rfl)) t0 bel lt0) (trodAll_cons_mk (Below.trod laidOut (by kernel_rfl) (of_decide_eq_true (by kernel_rfl)) t1 bel lt1) (trodAll_cons_mk (Below.trod laidOut (by kernel_rfl) (of_decide_eq_true (by kernel_rfl)) t2 bel lt2) trodAll_mk0))), rfl, bel.frame _, fun h => by cases h⟩

theorem over : Rows.fnMapInsertApartUptoRow.holds Try.pinned (Rows.OpenSpec.upto Rows.fnMapInsertApartSpec) :=
  OpenClaim.holds_of_cond 12 Try.f12 rfl rfl rfl rfl rfl rfl rfl ⟨rfl, rfl, rfl, rfl, rfl⟩ rfl rfl rfl rfl rfl (by kernel_rfl) Try.func12 (by kernel_rfl)
    (of_decide_eq_true (by kernel_rfl)) (by unfold Func.isWrapper; first | (rw [if_pos (by decide +kernel)]; kernel_rfl) | (rw [if_neg (by decide +kernel)]; exact ⟨rfl, rfl⟩))
    (fun os started H enc _ F => lifted os started H enc F)

/-- the given statement -/
theorem proved : Rows.FnMapInsertApartUptoSaid := over
#print axioms proved
end Go.Proofs.Ytcgcfenenkdhlaa.fnMapInsertApart
