/-
  spec.Weak: whether an order is weak on some items.
-/
import Derived.Shelf.SlSortCmp.QuietGrown
import Derived.Test.YtiocgmeonfanmaaSpI
namespace Go.Proofs.Ytiocgmeonfanmaa
open Go.RowKit Go.Sort Go.Shelf
set_option linter.unusedVariables false
set_option linter.unusedSimpArgs false

theorem below_grow {B : Nat} (W : World) (h : B ≤ W.heap.size) (n : Nat) (os : Array Obj) : Below B W (grow (W.drewN n) os) := by
  refine ⟨rfl, rfl, rfl, by rw [size_grow]; exact Nat.le_add_right _ _, fun k hk => ?_⟩
  exact heap_grow_old _ _ (by show k < W.heap.size; omega)
/-- the answer -/
noncomputable def weakB (s : Int) (os : List Int) (zs : List (Int × Int)) : Bool := @decide (WeakP s os zs) (Classical.propDecidable _)
theorem weakB_true {s : Int} {os : List Int} {zs : List (Int × Int)} (h : WeakP s os zs) : weakB s os zs = true := @decide_eq_true _ (Classical.propDecidable _) h
theorem weakB_false {s : Int} {os : List Int} {zs : List (Int × Int)} (h : ¬ WeakP s os zs) : weakB s os zs = false := @decide_eq_false _ (Classical.propDecidable _) h
def W3 (s : Int) (os : List Int) (a b c : Int) : Prop := cmpO s os a b ≤ 0 → cmpO s os b c ≤ 0 → cmpO s os a c ≤ 0
def W2 (s : Int) (os : List Int) (zs : List (Int × Int)) (a b : Int) : Prop := sgn (cmpO s os a b) = - sgn (cmpO s os b a) ∧ ∀ c ∈ zs, W3 s os a b c.1
def W1 (s : Int) (os : List Int) (zs : List (Int × Int)) (a : Int) : Prop := cmpO s os a a = 0 ∧ ∀ b ∈ zs, W2 s os zs a b.1
theorem all_snoc {zs : List (Int × Int)} {k : Nat} {x : Int × Int} {P : Int → Prop} (hx : zs[k]? = some x) (h : ∀ e ∈ zs.take k, P e.1) (hn : P x.1) : ∀ e ∈ zs.take (k + 1), P e.1 := by
  rw [take_snoc' hx]
  intro e he
  rcases List.mem_append.1 he with h1 | h1
  · exact h e h1
  · obtain rfl : e = x := by simpa using h1
    exact hn
theorem all_of {zs : List (Int × Int)} {n : Nat} {P : Int → Prop} (hl : zs.length = n) (h : ∀ e ∈ zs.take n, P e.1) : ∀ e ∈ zs, P e.1 := by
  rwa [List.take_of_length_le (by omega)] at h
set_option maxRecDepth 100000 in
set_option maxHeartbeats 2000000 in
theorem specWeak (s : Int) (A : Option Addr) (l c B : Nat) (os : List Int) (A' : Option Addr) (n c' B' : Nat) (zs : List (Int × Int)) (w : World) (hO : Rd w B 1 A l (ints os)) (hB : B ≤ w.heap.size) (hI : Rd w B' 2 A' n (pairs zs)) (hB' : B' ≤ w.heap.size) (hl : l ≤ 9223372036854775807) (hn : n ≤ 9223372036854775806) :
    Calls Try.prog 13 #[.agg #[.int .i64 s, .slice A l c], .slice A' n c'] w fun e w' => e = .returned (.bool (weakB s os zs)) ∧ Below w.heap.size w w' := by
  have mixed := mixedI
  have hzl : zs.length = n := by have := hI.1; rw [pairs_length] at this; omega
  have HZ := hide hzl
  clear hzl
  obtain ⟨w1, hw1⟩ : ∃ w1, w1 = w.alloc (.cells #[.int .i64 s, .slice A l c] 29) := ⟨_, rfl⟩
  have G1 : Below w.heap.size w w1 := by rw [hw1]; exact (Below.refl _ w).alloc (Nat.le_refl _) _
  have o01 : w1.cell? ⟨w.heap.size, 0, none⟩ = some (.int .i64 s) := by rw [hw1]; simp [go_sem]
  have o11 : w1.cell? ⟨w.heap.size, 1, none⟩ = some (.slice A l c) := by rw [hw1]; simp [go_sem]
  have lto1 : w.heap.size < w1.heap.size := by rw [hw1]; simp
  have HC : Hid (∀ (x1 x2 y1 y2 : Int) (W : World), Below w.heap.size w W → Calls Try.prog 16 #[.agg #[.int .i64 s, .slice A l c], .agg #[.int .i64 x1, .int .i64 x2], .agg #[.int .i64 y1, .int .i64 y2]] W fun e w' => e = .returned (.int .i64 (cmpO s os x1 y1)) ∧ Below W.heap.size W w') := hide fun x1 x2 y1 y2 W hW => by
    refine (compareS s A l c B os (x1, x2) (y1, y2) W (hO.below (hW.mono hB)) (Nat.le_trans hB hW.size) hl).mono ?_
    rintro e w' ⟨he, hw⟩
    exact ⟨he, by rw [hw]; exact (((Below.refl _ W).alloc (Nat.le_refl _) _).alloc (by simp) _).alloc (by simp; omega) _⟩
  have HG : Hid (∀ (x1 x2 y1 y2 : Int) (W : World), Below w.heap.size w W → ∀ k ob, Calls Try.prog 16 #[.agg #[.int .i64 s, .slice A l c], .agg #[.int .i64 x1, .int .i64 x2], .agg #[.int .i64 y1, .int .i64 y2]] (grow (W.drewN k) ob) fun e w' => e = .returned (.int .i64 (cmpO s os x1 y1)) ∧ ∃ q os', w' = grow ((grow (W.drewN k) ob).drewN q) os') := hide fun x1 x2 y1 y2 W hW k ob => by
    have hW2 := hW.trans (below_grow W hW.size k ob)
    refine (compareS s A l c B os (x1, x2) (y1, y2) _ (hO.below (hW2.mono hB)) (Nat.le_trans hB hW2.size) hl).mono ?_
    rintro e w' ⟨he, rfl⟩
    exact ⟨he, 0, #[_, _, _], rfl⟩
  have HSG : Hid (∀ (x : Int) (W : World) k ob, Calls Try.prog 28 #[.int .i64 x] (grow (W.drewN k) ob) fun e w' => e = .returned (.int .i64 (sgn x)) ∧ ∃ q os', w' = grow ((grow (W.drewN k) ob).drewN q) os') := hide fun x W k ob => by
    refine (specSign x _).mono ?_
    rintro e w' ⟨he, rfl⟩
    exact ⟨he, 0, #[], by rw [grow_empty]; rfl⟩
  go_enter Try.func13, Try.ntmps13
  go_wp2_with fail
  rw [← hw1]
  clear hw1
  go_loopw [13] (fun vi wr => ∃ i : Nat, vi = .int .i64 i ∧ i ≤ n ∧ Below w1.heap.size w1 wr ∧ Hid (∀ e ∈ zs.take i, W1 s os zs e.1)) (fun vi _ => n - (intOf vi).toNat)
  case atStart => exact ⟨0, rfl, Nat.zero_le _, Below.refl _ _, hide (by simp)⟩
  case round =>
    obtain ⟨i, rfl, hi, hA1, hW1⟩ := hrel
    by_cases hlt : i < n
    · have hltz : (i : Int) < (n : Int) := by omega
      obtain ⟨ba, offa, x1, x2, hAa, hba, hxa, hca1, hca2⟩ := (hI.below ((G1.trans (hA1.mono G1.size)).mono hB')).pair hlt
      subst hAa
      obtain ⟨Ba, hBa⟩ : ∃ Ba, Ba = wr.heap.size := ⟨_, rfl⟩
      obtain ⟨wA, hwA⟩ : ∃ W, W = wr.alloc (.cells #[.int .i64 x1, .int .i64 x2] 35) := ⟨_, rfl⟩
      have GA1 : Below w1.heap.size w1 wA := by rw [hwA]; exact hA1.alloc hA1.size _
      have a0A : wA.cell? ⟨Ba, 0, none⟩ = some (.int .i64 x1) := by rw [hwA, hBa]; simp [go_sem]
      have a1A : wA.cell? ⟨Ba, 1, none⟩ = some (.int .i64 x2) := by rw [hwA, hBa]; simp [go_sem]
      have ltaA : Ba < wA.heap.size := by rw [hwA, hBa]; simp
      have o0r : wr.cell? ⟨w.heap.size, 0, none⟩ = some (.int .i64 s) := (hA1.cell (p := ⟨w.heap.size, 0, none⟩) lto1).trans o01
      have o1r : wr.cell? ⟨w.heap.size, 1, none⟩ = some (.slice A l c) := (hA1.cell (p := ⟨w.heap.size, 1, none⟩) lto1).trans o11
      have ltor : w.heap.size < wr.heap.size := Nat.lt_of_lt_of_le lto1 hA1.size
      have o0A : wA.cell? ⟨w.heap.size, 0, none⟩ = some (.int .i64 s) := (GA1.cell (p := ⟨w.heap.size, 0, none⟩) lto1).trans o01
      have o1A : wA.cell? ⟨w.heap.size, 1, none⟩ = some (.slice A l c) := (GA1.cell (p := ⟨w.heap.size, 1, none⟩) lto1).trans o11
      have ltoA : w.heap.size < wA.heap.size := Nat.lt_of_lt_of_le lto1 GA1.size
      have GAw : Below w.heap.size w wA := G1.trans (GA1.mono G1.size)
      have HAA := hide (HC.out x1 x2 x1 x2 wA GAw)
      obtain ⟨ca, hca⟩ : ∃ z, z = cmpO s os x1 x1 := ⟨_, rfl⟩
      rw [← hca] at HAA
      go_wp2_with fail
      rw [← hBa, ← hwA]
      clear hwA hBa
      refine HAA.out.mono ?_
      rintro _ wM ⟨rfl, gM⟩
      have o0M : wM.cell? ⟨w.heap.size, 0, none⟩ = some (.int .i64 s) := (gM.cell (p := ⟨w.heap.size, 0, none⟩) ltoA).trans o0A
      have o1M : wM.cell? ⟨w.heap.size, 1, none⟩ = some (.slice A l c) := (gM.cell (p := ⟨w.heap.size, 1, none⟩) ltoA).trans o1A
      have ltoM : w.heap.size < wM.heap.size := Nat.lt_of_lt_of_le ltoA gM.size
      have a0M : wM.cell? ⟨Ba, 0, none⟩ = some (.int .i64 x1) := (gM.cell (p := ⟨Ba, 0, none⟩) ltaA).trans a0A
      have a1M : wM.cell? ⟨Ba, 1, none⟩ = some (.int .i64 x2) := (gM.cell (p := ⟨Ba, 1, none⟩) ltaA).trans a1A
      have ltaM : Ba < wM.heap.size := Nat.lt_of_lt_of_le ltaA gM.size
      have GMw : Below w.heap.size w wM := GAw.trans (gM.mono GAw.size)
      have GM1 : Below w1.heap.size w1 wM := GA1.trans (gM.mono GA1.size)
      by_cases hz1 : ca = 0
      · have hne : (ca != 0) = false := by simp [hz1]
        have HW1 : Hid (cmpO s os x1 x1 = 0) := hide (by rw [← hca]; exact hz1)
        clear hca hz1 hltz
        go_wp2_with fail
        go_loopw [24] (fun vj wr => ∃ j : Nat, vj = .int .i64 j ∧ j ≤ n ∧ Below wM.heap.size wM wr ∧ Hid (∀ e ∈ zs.take j, W2 s os zs x1 e.1)) (fun vj _ => n - (intOf vj).toNat)
        case atStart => exact ⟨0, rfl, Nat.zero_le _, Below.refl _ _, hide (by simp)⟩
        case round =>
          obtain ⟨j, rfl, hj, hA2, hW2⟩ := hrel
          by_cases hlt2 : j < n
          · have hltz2 : (j : Int) < (n : Int) := by omega
            obtain ⟨bb, offb, y1, y2, hAb, hbb, hxb, hcb1, hcb2⟩ := (hI.below ((GMw.trans (hA2.mono GMw.size)).mono hB')).pair hlt2
            injection hAb with hAb
            injection hAb with hAb1 hAb2
            subst hAb1 hAb2
            obtain ⟨Bb, hBb⟩ : ∃ Bb, Bb = wr.heap.size := ⟨_, rfl⟩
            obtain ⟨wB, hwB⟩ : ∃ W, W = wr.alloc (.cells #[.int .i64 y1, .int .i64 y2] 35) := ⟨_, rfl⟩
            have GBM : Below wM.heap.size wM wB := by rw [hwB]; exact hA2.alloc hA2.size _
            have b0B : wB.cell? ⟨Bb, 0, none⟩ = some (.int .i64 y1) := by rw [hwB, hBb]; simp [go_sem]
            have b1B : wB.cell? ⟨Bb, 1, none⟩ = some (.int .i64 y2) := by rw [hwB, hBb]; simp [go_sem]
            have ltbB : Bb < wB.heap.size := by rw [hwB, hBb]; simp
            have o0r2 : wr.cell? ⟨w.heap.size, 0, none⟩ = some (.int .i64 s) := (hA2.cell (p := ⟨w.heap.size, 0, none⟩) ltoM).trans o0M
            have o1r2 : wr.cell? ⟨w.heap.size, 1, none⟩ = some (.slice A l c) := (hA2.cell (p := ⟨w.heap.size, 1, none⟩) ltoM).trans o1M
            have ltor2 : w.heap.size < wr.heap.size := Nat.lt_of_lt_of_le ltoM hA2.size
            have a0r2 : wr.cell? ⟨Ba, 0, none⟩ = some (.int .i64 x1) := (hA2.cell (p := ⟨Ba, 0, none⟩) ltaM).trans a0M
            have a1r2 : wr.cell? ⟨Ba, 1, none⟩ = some (.int .i64 x2) := (hA2.cell (p := ⟨Ba, 1, none⟩) ltaM).trans a1M
            have ltar2 : Ba < wr.heap.size := Nat.lt_of_lt_of_le ltaM hA2.size
            have o0B : wB.cell? ⟨w.heap.size, 0, none⟩ = some (.int .i64 s) := (GBM.cell (p := ⟨w.heap.size, 0, none⟩) ltoM).trans o0M
            have o1B : wB.cell? ⟨w.heap.size, 1, none⟩ = some (.slice A l c) := (GBM.cell (p := ⟨w.heap.size, 1, none⟩) ltoM).trans o1M
            have ltoB : w.heap.size < wB.heap.size := Nat.lt_of_lt_of_le ltoM GBM.size
            have a0B : wB.cell? ⟨Ba, 0, none⟩ = some (.int .i64 x1) := (GBM.cell (p := ⟨Ba, 0, none⟩) ltaM).trans a0M
            have a1B : wB.cell? ⟨Ba, 1, none⟩ = some (.int .i64 x2) := (GBM.cell (p := ⟨Ba, 1, none⟩) ltaM).trans a1M
            have ltaB : Ba < wB.heap.size := Nat.lt_of_lt_of_le ltaM GBM.size
            have GBw : Below w.heap.size w wB := GMw.trans (GBM.mono GMw.size)
            have hrng : sgn (cmpO s os y1 x1) = -1 ∨ sgn (cmpO s os y1 x1) = 0 ∨ sgn (cmpO s os y1 x1) = 1 := by unfold sgn; split; exact .inl rfl; split; exact .inr (.inr rfl); exact .inr (.inl rfl)
            have hwrap : IntKind.i64.wrap (-(sgn (cmpO s os y1 x1))) = -(sgn (cmpO s os y1 x1)) := by rw [IntKind.wrap_i64]; omega
            clear hrng
            have go0 : ∀ n os, (grow (wB.drewN n) os).cell? ⟨w.heap.size, 0, none⟩ = some (.int .i64 s) := fun n os => cell_grown (a := ⟨w.heap.size, 0, none⟩) ltoB o0B n os
            have go1 : ∀ n os, (grow (wB.drewN n) os).cell? ⟨w.heap.size, 1, none⟩ = some (.slice A l c) := fun n os => cell_grown (a := ⟨w.heap.size, 1, none⟩) ltoB o1B n os
            have ga0 : ∀ n os, (grow (wB.drewN n) os).cell? ⟨Ba, 0, none⟩ = some (.int .i64 x1) := fun n os => cell_grown (a := ⟨Ba, 0, none⟩) ltaB a0B n os
            have ga1 : ∀ n os, (grow (wB.drewN n) os).cell? ⟨Ba, 1, none⟩ = some (.int .i64 x2) := fun n os => cell_grown (a := ⟨Ba, 1, none⟩) ltaB a1B n os
            have gb0 : ∀ n os, (grow (wB.drewN n) os).cell? ⟨Bb, 0, none⟩ = some (.int .i64 y1) := fun n os => cell_grown (a := ⟨Bb, 0, none⟩) ltbB b0B n os
            have gb1 : ∀ n os, (grow (wB.drewN n) os).cell? ⟨Bb, 1, none⟩ = some (.int .i64 y2) := fun n os => cell_grown (a := ⟨Bb, 1, none⟩) ltbB b1B n os
            go_wp2_with fail
            rw [← hBb, ← hwB]
            clear hwB hBb
            by_cases hz2 : sgn (cmpO s os x1 y1) = -(sgn (cmpO s os y1 x1))
            · have hne2 : (sgn (cmpO s os x1 y1) != -(sgn (cmpO s os y1 x1))) = false := by simp [hz2]
              have HZ2 := hide hz2
              clear hz2
              go_quiet_grown (first | (go_at_call 16; refine Calls.grown_of (HG.out _ _ _ _ wB GBw _ _)) | (go_at_call 28; refine Calls.grown_of (HSG.out _ wB _ _)))
              have gI0 : Below wB.heap.size wB (grow (wB.drewN nq) osq) := below_grow wB (Nat.le_refl _) nq osq
              clear go0 go1 ga0 ga1 gb0 gb1
              generalize grow (wB.drewN nq) osq = wI at gI0 ⊢
              clear nq osq
              have o0I : wI.cell? ⟨w.heap.size, 0, none⟩ = some (.int .i64 s) := (gI0.cell (p := ⟨w.heap.size, 0, none⟩) ltoB).trans o0B
              have o1I : wI.cell? ⟨w.heap.size, 1, none⟩ = some (.slice A l c) := (gI0.cell (p := ⟨w.heap.size, 1, none⟩) ltoB).trans o1B
              have ltoI : w.heap.size < wI.heap.size := Nat.lt_of_lt_of_le ltoB gI0.size
              have a0I : wI.cell? ⟨Ba, 0, none⟩ = some (.int .i64 x1) := (gI0.cell (p := ⟨Ba, 0, none⟩) ltaB).trans a0B
              have a1I : wI.cell? ⟨Ba, 1, none⟩ = some (.int .i64 x2) := (gI0.cell (p := ⟨Ba, 1, none⟩) ltaB).trans a1B
              have ltaI : Ba < wI.heap.size := Nat.lt_of_lt_of_le ltaB gI0.size
              have b0I : wI.cell? ⟨Bb, 0, none⟩ = some (.int .i64 y1) := (gI0.cell (p := ⟨Bb, 0, none⟩) ltbB).trans b0B
              have b1I : wI.cell? ⟨Bb, 1, none⟩ = some (.int .i64 y2) := (gI0.cell (p := ⟨Bb, 1, none⟩) ltbB).trans b1B
              have ltbI : Bb < wI.heap.size := Nat.lt_of_lt_of_le ltbB gI0.size
              have GIw : Below w.heap.size w wI := GBw.trans (gI0.mono GBw.size)
              have GIM : Below wM.heap.size wM wI := GBM.trans (gI0.mono GBM.size)
              go_wp2_with fail
              go_loopw [42] (fun vk wr => ∃ k : Nat, vk = .int .i64 k ∧ k ≤ n ∧ Below wI.heap.size wI wr ∧ Hid (∀ e ∈ zs.take k, W3 s os x1 y1 e.1)) (fun vk _ => n - (intOf vk).toNat)
              case atStart => exact ⟨0, rfl, Nat.zero_le _, Below.refl _ _, hide (by simp)⟩
              case round =>
                obtain ⟨k, rfl, hk, hA3, hW3⟩ := hrel
                by_cases hlt3 : k < n
                · have hltz3 : (k : Int) < (n : Int) := by omega
                  obtain ⟨bc, offc, t1, t2, hAc, hbc, hxc, hcc1, hcc2⟩ := (hI.below ((GIw.trans (hA3.mono GIw.size)).mono hB')).pair hlt3
                  injection hAc with hAc
                  injection hAc with hAc1 hAc2
                  subst hAc1 hAc2
                  obtain ⟨Bc, hBc⟩ : ∃ Bc, Bc = wr.heap.size := ⟨_, rfl⟩
                  obtain ⟨wC, hwC⟩ : ∃ W, W = wr.alloc (.cells #[.int .i64 t1, .int .i64 t2] 35) := ⟨_, rfl⟩
                  have GCI : Below wI.heap.size wI wC := by rw [hwC]; exact hA3.alloc hA3.size _
                  have c0C : wC.cell? ⟨Bc, 0, none⟩ = some (.int .i64 t1) := by rw [hwC, hBc]; simp [go_sem]
                  have c1C : wC.cell? ⟨Bc, 1, none⟩ = some (.int .i64 t2) := by rw [hwC, hBc]; simp [go_sem]
                  have ltcC : Bc < wC.heap.size := by rw [hwC, hBc]; simp
                  have o0r3 : wr.cell? ⟨w.heap.size, 0, none⟩ = some (.int .i64 s) := (hA3.cell (p := ⟨w.heap.size, 0, none⟩) ltoI).trans o0I
                  have o1r3 : wr.cell? ⟨w.heap.size, 1, none⟩ = some (.slice A l c) := (hA3.cell (p := ⟨w.heap.size, 1, none⟩) ltoI).trans o1I
                  have ltor3 : w.heap.size < wr.heap.size := Nat.lt_of_lt_of_le ltoI hA3.size
                  have a0r3 : wr.cell? ⟨Ba, 0, none⟩ = some (.int .i64 x1) := (hA3.cell (p := ⟨Ba, 0, none⟩) ltaI).trans a0I
                  have a1r3 : wr.cell? ⟨Ba, 1, none⟩ = some (.int .i64 x2) := (hA3.cell (p := ⟨Ba, 1, none⟩) ltaI).trans a1I
                  have ltar3 : Ba < wr.heap.size := Nat.lt_of_lt_of_le ltaI hA3.size
                  have b0r3 : wr.cell? ⟨Bb, 0, none⟩ = some (.int .i64 y1) := (hA3.cell (p := ⟨Bb, 0, none⟩) ltbI).trans b0I
                  have b1r3 : wr.cell? ⟨Bb, 1, none⟩ = some (.int .i64 y2) := (hA3.cell (p := ⟨Bb, 1, none⟩) ltbI).trans b1I
                  have ltbr3 : Bb < wr.heap.size := Nat.lt_of_lt_of_le ltbI hA3.size
                  have o0C : wC.cell? ⟨w.heap.size, 0, none⟩ = some (.int .i64 s) := (GCI.cell (p := ⟨w.heap.size, 0, none⟩) ltoI).trans o0I
                  have o1C : wC.cell? ⟨w.heap.size, 1, none⟩ = some (.slice A l c) := (GCI.cell (p := ⟨w.heap.size, 1, none⟩) ltoI).trans o1I
                  have ltoC : w.heap.size < wC.heap.size := Nat.lt_of_lt_of_le ltoI GCI.size
                  have a0C : wC.cell? ⟨Ba, 0, none⟩ = some (.int .i64 x1) := (GCI.cell (p := ⟨Ba, 0, none⟩) ltaI).trans a0I
                  have a1C : wC.cell? ⟨Ba, 1, none⟩ = some (.int .i64 x2) := (GCI.cell (p := ⟨Ba, 1, none⟩) ltaI).trans a1I
                  have ltaC : Ba < wC.heap.size := Nat.lt_of_lt_of_le ltaI GCI.size
                  have b0C : wC.cell? ⟨Bb, 0, none⟩ = some (.int .i64 y1) := (GCI.cell (p := ⟨Bb, 0, none⟩) ltbI).trans b0I
                  have b1C : wC.cell? ⟨Bb, 1, none⟩ = some (.int .i64 y2) := (GCI.cell (p := ⟨Bb, 1, none⟩) ltbI).trans b1I
                  have ltbC : Bb < wC.heap.size := Nat.lt_of_lt_of_le ltbI GCI.size
                  have GCw : Below w.heap.size w wC := GIw.trans (GCI.mono GIw.size)
                  go_wp2_with fail
                  rw [← hBc, ← hwC]
                  clear hwC hBc
                  refine (HC.out x1 x2 y1 y2 wC GCw).mono ?_
                  rintro _ wD ⟨rfl, gD⟩
                  have o0D : wD.cell? ⟨w.heap.size, 0, none⟩ = some (.int .i64 s) := (gD.cell (p := ⟨w.heap.size, 0, none⟩) ltoC).trans o0C
                  have o1D : wD.cell? ⟨w.heap.size, 1, none⟩ = some (.slice A l c) := (gD.cell (p := ⟨w.heap.size, 1, none⟩) ltoC).trans o1C
                  have ltoD : w.heap.size < wD.heap.size := Nat.lt_of_lt_of_le ltoC gD.size
                  have a0D : wD.cell? ⟨Ba, 0, none⟩ = some (.int .i64 x1) := (gD.cell (p := ⟨Ba, 0, none⟩) ltaC).trans a0C
                  have a1D : wD.cell? ⟨Ba, 1, none⟩ = some (.int .i64 x2) := (gD.cell (p := ⟨Ba, 1, none⟩) ltaC).trans a1C
                  have ltaD : Ba < wD.heap.size := Nat.lt_of_lt_of_le ltaC gD.size
                  have b0D : wD.cell? ⟨Bb, 0, none⟩ = some (.int .i64 y1) := (gD.cell (p := ⟨Bb, 0, none⟩) ltbC).trans b0C
                  have b1D : wD.cell? ⟨Bb, 1, none⟩ = some (.int .i64 y2) := (gD.cell (p := ⟨Bb, 1, none⟩) ltbC).trans b1C
                  have ltbD : Bb < wD.heap.size := Nat.lt_of_lt_of_le ltbC gD.size
                  have c0D : wD.cell? ⟨Bc, 0, none⟩ = some (.int .i64 t1) := (gD.cell (p := ⟨Bc, 0, none⟩) ltcC).trans c0C
                  have c1D : wD.cell? ⟨Bc, 1, none⟩ = some (.int .i64 t2) := (gD.cell (p := ⟨Bc, 1, none⟩) ltcC).trans c1C
                  have ltcD : Bc < wD.heap.size := Nat.lt_of_lt_of_le ltcC gD.size
                  have GDw : Below w.heap.size w wD := GCw.trans (gD.mono GCw.size)
                  have GDI : Below wI.heap.size wI wD := GCI.trans (gD.mono GCI.size)
                  by_cases p1 : cmpO s os x1 y1 ≤ 0
                  · go_wp2_with fail
                    refine (HC.out y1 y2 t1 t2 wD GDw).mono ?_
                    rintro _ wE ⟨rfl, gE⟩
                    have o0E : wE.cell? ⟨w.heap.size, 0, none⟩ = some (.int .i64 s) := (gE.cell (p := ⟨w.heap.size, 0, none⟩) ltoD).trans o0D
                    have o1E : wE.cell? ⟨w.heap.size, 1, none⟩ = some (.slice A l c) := (gE.cell (p := ⟨w.heap.size, 1, none⟩) ltoD).trans o1D
                    have ltoE : w.heap.size < wE.heap.size := Nat.lt_of_lt_of_le ltoD gE.size
                    have a0E : wE.cell? ⟨Ba, 0, none⟩ = some (.int .i64 x1) := (gE.cell (p := ⟨Ba, 0, none⟩) ltaD).trans a0D
                    have a1E : wE.cell? ⟨Ba, 1, none⟩ = some (.int .i64 x2) := (gE.cell (p := ⟨Ba, 1, none⟩) ltaD).trans a1D
                    have ltaE : Ba < wE.heap.size := Nat.lt_of_lt_of_le ltaD gE.size
                    have b0E : wE.cell? ⟨Bb, 0, none⟩ = some (.int .i64 y1) := (gE.cell (p := ⟨Bb, 0, none⟩) ltbD).trans b0D
                    have b1E : wE.cell? ⟨Bb, 1, none⟩ = some (.int .i64 y2) := (gE.cell (p := ⟨Bb, 1, none⟩) ltbD).trans b1D
                    have ltbE : Bb < wE.heap.size := Nat.lt_of_lt_of_le ltbD gE.size
                    have c0E : wE.cell? ⟨Bc, 0, none⟩ = some (.int .i64 t1) := (gE.cell (p := ⟨Bc, 0, none⟩) ltcD).trans c0D
                    have c1E : wE.cell? ⟨Bc, 1, none⟩ = some (.int .i64 t2) := (gE.cell (p := ⟨Bc, 1, none⟩) ltcD).trans c1D
                    have ltcE : Bc < wE.heap.size := Nat.lt_of_lt_of_le ltcD gE.size
                    have GEw : Below w.heap.size w wE := GDw.trans (gE.mono GDw.size)
                    have GEI : Below wI.heap.size wI wE := GDI.trans (gE.mono GDI.size)
                    by_cases p2 : cmpO s os y1 t1 ≤ 0
                    · go_wp2_with fail
                      refine (HC.out x1 x2 t1 t2 wE GEw).mono ?_
                      rintro _ wF ⟨rfl, gF⟩
                      have GFw : Below w.heap.size w wF := GEw.trans (gF.mono GEw.size)
                      have GFI : Below wI.heap.size wI wF := GEI.trans (gF.mono GEI.size)
                      by_cases p3 : 0 < cmpO s os x1 t1
                      · have HN : Hid (¬ WeakP s os zs) := hide (fun hw => by have := ((hw _ (List.mem_of_getElem? hxa.out)).2 _ (List.mem_of_getElem? hxb.out)).2 _ (List.mem_of_getElem? hxc.out) p1 p2; exact Int.not_le.2 p3 this)
                        go_wp2_with fail
                        go_ret
                        exact ⟨by rw [weakB_false HN.out]; rfl, GFw⟩
                      · have HN : Hid (W3 s os x1 y1 t1) := hide (fun _ _ => by omega)
                        go_wp2_with fail
                        go_roundw
                        case rel => exact ⟨k + 1, by go_num, by omega, GFI, hide (all_snoc (P := fun e => W3 s os x1 y1 e) hxc.out hW3.out HN.out)⟩
                        case measure => simp [intOf]; omega
                    · have HN : Hid (W3 s os x1 y1 t1) := hide (fun _ h => absurd h p2)
                      go_wp2_with fail
                      go_roundw
                      case rel => exact ⟨k + 1, by go_num, by omega, GEI, hide (all_snoc (P := fun e => W3 s os x1 y1 e) hxc.out hW3.out HN.out)⟩
                      case measure => simp [intOf]; omega
                  · have HN : Hid (W3 s os x1 y1 t1) := hide (fun h _ => absurd h p1)
                    go_wp2_with fail
                    go_roundw
                    case rel => exact ⟨k + 1, by go_num, by omega, GDI, hide (all_snoc (P := fun e => W3 s os x1 y1 e) hxc.out hW3.out HN.out)⟩
                    case measure => simp [intOf]; omega
                · have hltz3 : ¬ (k : Int) < (n : Int) := by omega
                  obtain rfl : k = n := by omega
                  have HN : Hid (W2 s os zs x1 y1) := hide ⟨HZ2.out, all_of (P := fun e => W3 s os x1 y1 e) HZ.out hW3.out⟩
                  have GR : Below wM.heap.size wM wr := GIM.trans (hA3.mono GIM.size)
                  go_wp2_with fail
                  go_roundw
                  case rel => exact ⟨j + 1, by go_num, by omega, GR, hide (all_snoc (P := fun e => W2 s os zs x1 e) hxb.out hW2.out HN.out)⟩
                  case measure => simp [intOf]; omega
            · have hne2 : (sgn (cmpO s os x1 y1) != -(sgn (cmpO s os y1 x1))) = true := by simp [hz2]
              have HN : Hid (¬ WeakP s os zs) := hide (fun hw => hz2 ((hw _ (List.mem_of_getElem? hxa.out)).2 _ (List.mem_of_getElem? hxb.out)).1)
              clear hz2
              go_quiet_grown (first | (go_at_call 16; refine Calls.grown_of (HG.out _ _ _ _ wB GBw _ _)) | (go_at_call 28; refine Calls.grown_of (HSG.out _ wB _ _)))
              have gI0 : Below wB.heap.size wB (grow (wB.drewN nq) osq) := below_grow wB (Nat.le_refl _) nq osq
              clear go0 go1 ga0 ga1 gb0 gb1
              generalize grow (wB.drewN nq) osq = wI at gI0 ⊢
              clear nq osq
              go_wp2_with fail
              go_ret
              exact ⟨by rw [weakB_false HN.out]; rfl, GBw.trans (gI0.mono GBw.size)⟩
          · have hltz2 : ¬ (j : Int) < (n : Int) := by omega
            obtain rfl : j = n := by omega
            have HN : Hid (W1 s os zs x1) := hide ⟨HW1.out, all_of (P := fun e => W2 s os zs x1 e) HZ.out hW2.out⟩
            have GR : Below w1.heap.size w1 wr := GM1.trans (hA2.mono GM1.size)
            go_wp2_with fail
            go_roundw
            case rel => exact ⟨i + 1, by go_num, by omega, GR, hide (all_snoc (P := fun e => W1 s os zs e) hxa.out hW1.out HN.out)⟩
            case measure => simp [intOf]; omega
      · have hne : (ca != 0) = true := by simp [hz1]
        have HN : Hid (¬ WeakP s os zs) := hide (fun hw => hz1 (by rw [hca]; exact (hw _ (List.mem_of_getElem? hxa.out)).1))
        clear hca hz1
        go_wp2_with fail
        go_ret
        exact ⟨by rw [weakB_false HN.out]; rfl, GMw⟩
    · have hltz : ¬ (i : Int) < (n : Int) := by omega
      obtain rfl : i = n := by omega
      have HN : Hid (WeakP s os zs) := hide (all_of (P := fun e => W1 s os zs e) HZ.out hW1.out)
      go_wp2_with fail
      go_ret
      exact ⟨by rw [weakB_true HN.out]; rfl, G1.trans (hA1.mono G1.size)⟩
end Go.Proofs.Ytiocgmeonfanmaa
