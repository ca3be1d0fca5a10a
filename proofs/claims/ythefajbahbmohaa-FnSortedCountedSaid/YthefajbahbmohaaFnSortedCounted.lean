/-
  FnSortedCounted: the law returns true at every input, and changes nothing that was there.
-/
import Derived.ProofKit
import Derived.OpenShut
import Derived.JoinedCond
import Derived.Deep.CondSized
import Derived.SizedLaws
import Derived.WalkKit
import Derived.WalkLawsBesides
import Derived.Outline
import Derived.Deep.DeepMust
import Derived.Test.YthefajbahbmohaaOpen
import Derived.Test.YthefajbahbmohaaSortI
import Derived.Test.YthefajbahbmohaaSpec
namespace Go.Proofs.Ythefajbahbmohaa.fnSortedCounted
open Go.ChangeShapes Go.WideShapes Go.ChangeAt Go.RowKit
set_option linter.unusedVariables false
set_option linter.unusedSimpArgs false

def cntL (x : Int) (l : List Int) : Nat := l.countP fun y => decide (y < x)
def cntE (x : Int) (l : List Int) : Nat := l.countP fun y => decide (y ≤ x)
theorem cnt_take {S : List Int} {i : Nat} {P : Int → Bool} (hi : i < S.length) (h : ∀ y ∈ S.take (i + 1), P y = true) : i + 1 ≤ S.countP P := by
  have h1 : (S.take (i + 1)).countP P = (S.take (i + 1)).length := List.countP_eq_length.2 h
  have h2 : S.countP P = (S.take (i + 1)).countP P + (S.drop (i + 1)).countP P := by rw [← List.countP_append, List.take_append_drop]
  rw [h1, List.length_take] at h2
  omega
theorem cnt_drop {S : List Int} {i : Nat} {P : Int → Bool} (h : ∀ y ∈ S.drop i, ¬ P y = true) : S.countP P ≤ i := by
  have h1 : (S.drop i).countP P = 0 := List.countP_eq_zero.2 h
  have h2 : S.countP P = (S.take i).countP P + (S.drop i).countP P := by rw [← List.countP_append, List.take_append_drop]
  have h3 : (S.take i).countP P ≤ (S.take i).length := List.countP_le_length
  rw [List.length_take] at h3
  omega
theorem stands {zs : List Int} {x y : Int} {i : Nat} (h1 : cntL x zs ≤ i) (h2 : i < cntE x zs) (hy : (srt zs)[i]? = some y) : y = x := by
  obtain ⟨hi, rfl⟩ := List.getElem?_eq_some_iff.1 hy
  have hs := List.pairwise_iff_getElem.1 (srt_sorted zs)
  unfold cntL at h1
  unfold cntE at h2
  rw [← (srt_perm zs).countP_eq] at h1 h2
  rcases Int.lt_trichotomy (srt zs)[i] x with h | h | h
  · exfalso
    have := cnt_take (P := fun y => decide (y < x)) hi (by
      intro y hy
      obtain ⟨j, hj, rfl⟩ := List.mem_iff_getElem.1 hy
      rw [List.length_take] at hj
      rw [List.getElem_take]
      have : (srt zs)[j] ≤ (srt zs)[i] := by
        rcases Nat.lt_or_ge j i with hji | hji
        · exact hs j i (by omega) hi hji
        · obtain rfl : j = i := by omega
          exact Int.le_refl _
      simp; omega)
    omega
  · exact h
  · exfalso
    have := cnt_drop (S := srt zs) (i := i) (P := fun y => decide (y ≤ x)) (by
      intro y hy
      obtain ⟨j, hj, rfl⟩ := List.mem_iff_getElem.1 hy
      rw [List.length_drop] at hj
      rw [List.getElem_drop]
      have : (srt zs)[i] ≤ (srt zs)[i + j] := by
        rcases Nat.eq_zero_or_pos j with hj0 | hj0
        · subst hj0; exact Int.le_refl _
        · exact hs i (i + j) hi (by omega) (by omega)
      simp; omega)
    omega
theorem cntL_snoc {zs : List Int} {j : Nat} {x y : Int} (hy : zs[j]? = some y) : cntL x (zs.take (j + 1)) = cntL x (zs.take j) + (if y < x then 1 else 0) := by
  unfold cntL
  rw [take_snoc' hy, List.countP_append]
  simp [List.countP_cons]
theorem cntE_snoc {zs : List Int} {j : Nat} {x y : Int} (hy : zs[j]? = some y) : cntE x (zs.take (j + 1)) = cntE x (zs.take j) + (if y ≤ x then 1 else 0) := by
  unfold cntE
  rw [take_snoc' hy, List.countP_append]
  simp [List.countP_cons]
set_option maxRecDepth 100000 in
set_option maxHeartbeats 4000000 in
theorem walk (a0 : Option Addr) (l0 c0 : Nat) (z0 : List Int) (w : World) (k0 : l0 ≤ c0) (m0 : c0 ≤ maxLen) (r0 : Rd w w.heap.size 1 a0 l0 (ints z0)) (f0 : ∀ x ∈ z0, (Lit.int .i64 x).wf = true) (b0 : l0 * 8 ≤ 140737488351232) :
    Calls Try.prog 5 #[.slice a0 l0 c0] w fun e w' => e = .returned (.bool true) ∧ Below w.heap.size w w' := by
  have hlen : l0 ≤ 4611686018427387903 := by omega
  have hzl : z0.length = l0 := by have := r0.1; simpa using this
  have HZ := hide hzl
  clear hzl
  have hnn : ((l0 : Int) != (l0 : Int)) = false := by simp
  go_enter Try.func5, Try.ntmps5
  go_wp2_with fail
  refine (implSorted a0 l0 c0 z0 b0 w r0).mono ?_
  rintro e w1 ⟨A1, d1, rfl, own1, g1⟩
  have hrd := Rd.of_own own1
  have hin := r0.below g1
  have hs1 := g1.size
  clear own1 r0
  go_wp2_with fail
  go_loopw [24] (fun i wr => ∃ k : Nat, k ≤ l0 ∧ i = .int .i64 k ∧ Hid (w1 = wr)) (fun i _ => l0 - (intOf i).toNat)
  case atStart => exact ⟨0, Nat.zero_le _, rfl, by first | exact hide rfl | exact hide trivial⟩
  case round =>
    obtain ⟨k, hk, rfl, hwr⟩ := hrel
    obtain rfl := hwr.out
    clear hwr
    by_cases hlt : k < l0
    · obtain ⟨b, off, x, rfl, hb, hx, hcx⟩ := hin.intx hlt
      go_wp2_with fail
      go_loopw [7, 8, 30] (fun v7 v8 i wr => ∃ j p q : Nat, j ≤ l0 ∧ p + q ≤ j ∧ v7 = .int .i64 p ∧ v8 = .int .i64 q ∧ i = .int .i64 j ∧ Hid (cntL x (z0.take j) = p) ∧ Hid (cntE x (z0.take j) = p + q) ∧ Hid (w1 = wr)) (fun _ _ i _ => l0 - (intOf i).toNat)
      case atStart => exact ⟨0, 0, 0, Nat.zero_le _, Nat.le_refl _, rfl, rfl, rfl, hide (by simp [cntL]), hide (by simp [cntE]), by first | exact hide rfl | exact hide trivial⟩
      case round =>
        obtain ⟨j, p, q, hj, hpq, rfl, rfl, rfl, hL, hE, hwr⟩ := hrel
        obtain rfl := hwr.out
        clear hwr
        by_cases hlt2 : j < l0
        · obtain ⟨b', off', y, hbe, hb', hy, hcy⟩ := hin.intx hlt2
          injection hbe with hbe
          injection hbe with hbe1 hbe2
          subst hbe1 hbe2
          have sL := cntL_snoc (x := x) hy.out
          have sE := cntE_snoc (x := x) hy.out
          rw [hL.out] at sL
          rw [hE.out] at sE
          have SL := hide sL
          have SE := hide sE
          clear sL sE
          rcases Int.lt_trichotomy y x with hxy | hxy | hxy
          · have hne : (y == x) = false := by simp; omega
            have fL : cntL x (z0.take (j + 1)) = p + 1 := by rw [SL.out, if_pos hxy]
            have fE : cntE x (z0.take (j + 1)) = p + 1 + q := by rw [SE.out, if_pos (by omega)]; omega
            have FL := hide fL
            have FE := hide fE
            clear fL fE
            go_wp2
            go_roundw
            case rel => exact ⟨j + 1, p + 1, q, by omega, by omega, by go_num, rfl, by go_num, FL, FE, by first | exact hide rfl | exact hide trivial⟩
            case measure => simp [intOf]; omega
          · subst hxy
            have hnl : decide (y < y) = false := by simp
            have fL : cntL y (z0.take (j + 1)) = p := by rw [SL.out, if_neg (by omega)]; omega
            have fE : cntE y (z0.take (j + 1)) = p + (q + 1) := by rw [SE.out, if_pos (by omega)]; omega
            have FL := hide fL
            have FE := hide fE
            clear fL fE
            go_wp2
            go_roundw
            case rel => exact ⟨j + 1, p, q + 1, by omega, by omega, rfl, by go_num, by go_num, FL, FE, by first | exact hide rfl | exact hide trivial⟩
            case measure => simp [intOf]; omega
          · have hne : (y == x) = false := by simp; omega
            have hnl : decide (y < x) = false := by simp; omega
            have fL : cntL x (z0.take (j + 1)) = p := by rw [SL.out, if_neg (by omega)]; omega
            have fE : cntE x (z0.take (j + 1)) = p + q := by rw [SE.out, if_neg (by omega)]; omega
            have FL := hide fL
            have FE := hide fE
            clear fL fE
            go_wp2
            go_roundw
            case rel => exact ⟨j + 1, p, q, by omega, by omega, rfl, rfl, by go_num, FL, FE, by first | exact hide rfl | exact hide trivial⟩
            case measure => simp [intOf]; omega
        · obtain rfl : j = l0 := by omega
          have fL : cntL x z0 = p := by have := hL.out; rwa [List.take_of_length_le (by rw [HZ.out]; exact Nat.le_refl _)] at this
          have fE : cntE x z0 = p + q := by have := hE.out; rwa [List.take_of_length_le (by rw [HZ.out]; exact Nat.le_refl _)] at this
          have FL := hide fL
          have FE := hide fE
          clear fL fE
          go_wp2_with fail
          go_loopw [11] (fun i wr => ∃ s : Nat, s ≤ q ∧ i = .int .i64 ((p + s : Nat) : Int) ∧ Hid (w1 = wr)) (fun i _ => p + q - (intOf i).toNat)
          case atStart => exact ⟨0, Nat.zero_le _, by simp, by first | exact hide rfl | exact hide trivial⟩
          case round =>
            obtain ⟨s, hs, rfl, hwr⟩ := hrel
            obtain rfl := hwr.out
            clear hwr
            by_cases hlt3 : s < q
            · obtain ⟨b3, off3, y, hA1, hb3, hy, hcy⟩ := hrd.intx (k := p + s) (by omega)
              obtain rfl : y = x := stands (by rw [FL.out]; omega) (by rw [FE.out]; omega) hy.out
              subst hA1
              have hyy : (y != y) = false := by simp
              have hlt3' : ((p + s : Nat) : Int) < (p : Int) + (q : Int) := by omega
              go_wp2
              go_roundw
              case rel => exact ⟨s + 1, by omega, by go_num, by first | exact hide rfl | exact hide trivial⟩
              case measure => simp [intOf]; omega
            · obtain rfl : s = q := by omega
              go_wp2
              go_roundw
              case rel => exact ⟨k + 1, by omega, by go_num, by first | exact hide rfl | exact hide trivial⟩
              case measure => simp [intOf]; omega
    · obtain rfl : k = l0 := by omega
      go_wp2
      go_ret
      exact ⟨by simp, g1⟩

set_option maxRecDepth 100000 in
theorem lifted (os : Os) (started : os.Started) (H : Type) (enc : TypeId × Value → H) :
    ReturnsInHanded {} Try.checked os 5 .any (Rows.fnSortedCountedSpec.pre6 enc Try.prog Try.f5 Rows.fnSortedCountedRow.domain false) (Rows.fnSortedCountedSpec.post enc Try.prog Try.f5 false true false false) := by
  refine returnsInHanded_of_change_sized (C := Try.checked) own started (by kernel_rfl) Try.func5
    (ChangeSpec.witness6 (enc := enc) (C := Try.checked) false ⟨#[], #[.slice none 0 0], []⟩ 8 (by kernel_rfl) (by kernel_rfl) (by kernel_rfl) (by kernel_rfl)) ?_
  intro W base args ds gs before hval0 hW _ hsz0 _
  have hsz : (DataW.weightsEach Try.prog (Try.f5.params.toList ++ Rows.fnSortedCountedSpec.plain.varTypes Try.prog) (ds ++ gs)).all (· ≤ reachBytes) = true := hsz0
  have hval : ∀ (j : Nat) t v, Try.f5.params[j]? = some t → args[j]? = some v → Value.okWide Try.prog W .any base t v := hval0
  have hW' := hW
  obtain ⟨p, q, hA0, hV, rfl, hfz, hnd⟩ := hW
  have hA : DataW.TrodAll enc Try.prog W 0 (fun _ => true) true Try.f5.params.toList args.toList ds p := hA0
  rw [Try.params5] at hA hval hsz
  obtain ⟨v0, vs0, d0, ds0, p0, q0, hargs, rfl, rfl, h0, rr0⟩ := trodAll_cons hA
  obtain ⟨rfl, rfl, rfl⟩ := trodAll_nil rr0
  obtain rfl : args = #[v0] := by cases args; simp_all
  obtain ⟨rfl, rfl⟩ := trodVars_none hV
  have t0 := h0
  have lt0 : ∀ x ∈ p0, x.block < W.heap.size := by obtain ⟨m, hm⟩ := t0; exact DataW.trod_lt m _ _ _ hm
  obtain ⟨a0, l0, c0, z0, rfl, k0, m0, r0, f0, u0, s0⟩ := openInts (hval 0 22 v0 rfl rfl) h0
  have b0 := s0 (sized_at hsz 0 rfl rfl)
  refine (walk a0 l0 c0 z0 W k0 m0 r0 f0 b0).mono fun e W' ⟨he, bel⟩ => ?_
  subst he
  exact ⟨_, rfl, _, _, _, [], _, [], hW', trodAll_mk1 (shut_bool Try.underlying4 _), (trodAll_cons_mk (Below.trod laidOut (by kernel_rfl) (of_decide_eq_true (by kernel_rfl)) t0 bel lt0) trodAll_mk0), rfl, bel.frame _, fun h => by cases h⟩

theorem over : Rows.fnSortedCountedRow.holds Try.pinned (OpenSpec.ofChange Rows.fnSortedCountedSpec) :=
  OpenClaim.holds_of_wide 5 Try.f5 rfl rfl rfl rfl rfl rfl rfl ⟨rfl, rfl, rfl, rfl, rfl⟩ rfl rfl rfl rfl rfl (by kernel_rfl) Try.func5 (by kernel_rfl)
    (of_decide_eq_true (by kernel_rfl)) (by unfold Func.isWrapper; first | (rw [if_pos (by decide +kernel)]; kernel_rfl) | (rw [if_neg (by decide +kernel)]; exact ⟨rfl, rfl⟩))
    (fun os started H enc _ => lifted os started H enc)

/-- the given statement -/
theorem proved : Rows.FnSortedCountedSaid := over
#print axioms proved
end Go.Proofs.Ythefajbahbmohaa.fnSortedCounted
