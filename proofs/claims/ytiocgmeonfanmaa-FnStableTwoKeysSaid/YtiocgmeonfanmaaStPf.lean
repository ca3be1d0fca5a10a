/-
  slices.choosePivotCmpFunc at items.
-/
import Derived.Test.YtiocgmeonfanmaaStPb
namespace Go.Proofs.Ytiocgmeonfanmaa
open Go.RowKit Go.Sort Go.Shelf
set_option linter.unusedVariables false
set_option linter.unusedSimpArgs false
variable {α : Type} [Inhabited α]

def hcode : Hint → Int
  | .unknown => 0
  | .increasing => 1
  | .decreasing => 2
/-- the result, as a pair of numbers -/
def pivRes (p sw : Nat) : Ending := .returned (.tuple #[.int .i64 p, .int .i64 (hcode (if sw = 0 then Hint.increasing else if sw = 12 then Hint.decreasing else Hint.unknown))])
theorem median_bnd (lt : α → α → Bool) (d : Array α) {a b c n : Nat} (sw : Nat) (ha : a < n) (hb : b < n) (hc : c < n) : (median lt d a b c sw).1 < n ∧ (median lt d a b c sw).2 ≤ sw + 3 := by
  have h1 := order2_bnd lt d sw ha hb
  have h2 := order2_bnd lt d (order2 lt d a b sw).2.2 h1.2.1 hc
  have h3 := order2_bnd lt d (order2 lt d (order2 lt d a b sw).2.1 c (order2 lt d a b sw).2.2).2.2 h1.1 h2.1
  exact ⟨h3.2.1, by have := h3.2.2; simp only [median]; omega⟩
set_option maxHeartbeats 2000000 in
set_option maxRecDepth 1000000 in
theorem pivotI (it : α → Int × Int) (s : Int) (A : Option Addr) (l c B : Nat) (zs : List Int) (blk off cap a b : Nat) (d0 d : Array α) (w0 w : World) (R : RowK (encI it) 2 w0 blk off d0) (C : CmpB s A l c B zs w0 blk) (hs : d.size = d0.size) (S : SWK (encI it) 2 w0 blk off d w) (hab : a < b) (hb : b ≤ d.size) (hsz : d.size < 2305843009213693952) :
    Calls Try.prog 48 #[.slice (some ⟨blk, off, none⟩) d.size cap, .int .i64 a, .int .i64 b, .func (.func 26) #[.agg #[.int .i64 s, .slice A l c]] #[]] w fun e w' => e = .returned (.tuple #[.int .i64 ((choosePivot (ltOf (cfI s zs it)) d a b).1 : Nat), .int .i64 (hcode (choosePivot (ltOf (cfI s zs it)) d a b).2)]) ∧ SWK (encI it) 2 w0 blk off d w' := by
  have HMD := hide fun (x y z sw : Nat) (W : World) (K : CntK (encI it) 2 w0 blk off d w.heap.size sw W) (hx : x < d.size) (hy : y < d.size) (hz : z < d.size) (hsw : sw + 3 < 4611686018427387904) => medianI it s A l c B zs blk off cap x y z w.heap.size sw d0 d w0 W R C hs K hx hy hz (by omega) hsw
  have HMA := hide fun (x sw : Nat) (W : World) (K : CntK (encI it) 2 w0 blk off d w.heap.size sw W) (h0 : 0 < x) (hx : x + 1 < d.size) (hsw : sw + 3 < 4611686018427387904) => medianAdjI it s A l c B zs blk off cap x w.heap.size sw d0 d w0 W R C hs K h0 hx (by omega) hsw
  have K0 : Hid (CntK (encI it) 2 w0 blk off d w.heap.size 0 (w.alloc (.cells #[.int .i64 0] 3))) := hide (CntK.start S 3)
  clear S hs R C
  obtain ⟨ln, hln⟩ : ∃ ln : Nat, (b : Int) - (a : Int) = (ln : Int) := ⟨b - a, by omega⟩
  have HLN : Hid (b - a = ln) := hide (by omega)
  obtain ⟨q, hq⟩ : ∃ q : Nat, q = ln / 4 := ⟨_, rfl⟩
  have HQ := hide hq
  have q4 : (ln : Int) / 4 = (q : Int) := by omega
  have q4' : (ln : Int).tdiv 4 = (q : Int) := by rw [Int.tdiv_eq_ediv_of_nonneg (by omega)]; omega
  have hqb : a + q * 4 ≤ b := by omega
  have hqb2 : ln < q * 4 + 4 := by omega
  clear hq
  obtain ⟨I, hI⟩ : ∃ I : Nat, (a : Int) + (q : Int) = (I : Int) := ⟨a + q, by omega⟩
  obtain ⟨J, hJ⟩ : ∃ J : Nat, (a : Int) + (q : Int) * 2 = (J : Int) := ⟨a + q * 2, by omega⟩
  obtain ⟨K, hK⟩ : ∃ K : Nat, (a : Int) + (q : Int) * 3 = (K : Int) := ⟨a + q * 3, by omega⟩
  have HI : Hid (a + ln / 4 * 1 = I) := hide (by have := HQ.out; omega)
  have HJ : Hid (a + ln / 4 * 2 = J) := hide (by have := HQ.out; omega)
  have HK : Hid (a + ln / 4 * 3 = K) := hide (by have := HQ.out; omega)
  have res : ∀ p sw : Nat, (if ln ≥ 8 then if ln ≥ 50 then median (ltOf (cfI s zs it)) d (medianAdjacent (ltOf (cfI s zs it)) d I 0).1 (medianAdjacent (ltOf (cfI s zs it)) d J (medianAdjacent (ltOf (cfI s zs it)) d I 0).2).1 (medianAdjacent (ltOf (cfI s zs it)) d K (medianAdjacent (ltOf (cfI s zs it)) d J (medianAdjacent (ltOf (cfI s zs it)) d I 0).2).2).1 (medianAdjacent (ltOf (cfI s zs it)) d K (medianAdjacent (ltOf (cfI s zs it)) d J (medianAdjacent (ltOf (cfI s zs it)) d I 0).2).2).2 else median (ltOf (cfI s zs it)) d I J K 0 else (J, 0)) = (p, sw) → choosePivot (ltOf (cfI s zs it)) d a b = (p, if sw = 0 then Hint.increasing else if sw = 12 then Hint.decreasing else Hint.unknown) := fun p sw h => by
    simp only [choosePivot]
    rw [HLN.out, HI.out, HJ.out, HK.out, h]
  have RES := hide res
  clear res
  by_cases h8 : 8 ≤ ln
  · have h8z : 8 ≤ (ln : Int) := by omega
    by_cases h50 : 50 ≤ ln
    · have h50z : 50 ≤ (ln : Int) := by omega
      obtain ⟨i1, s1, e1⟩ : ∃ i1 s1, medianAdjacent (ltOf (cfI s zs it)) d I 0 = (i1, s1) := ⟨_, _, rfl⟩
      obtain ⟨j1, s2, e2⟩ : ∃ i1 s2, medianAdjacent (ltOf (cfI s zs it)) d J s1 = (i1, s2) := ⟨_, _, rfl⟩
      obtain ⟨k1, s3, e3⟩ : ∃ i1 s3, medianAdjacent (ltOf (cfI s zs it)) d K s2 = (i1, s3) := ⟨_, _, rfl⟩
      obtain ⟨p, sw, e4⟩ : ∃ p sw, median (ltOf (cfI s zs it)) d i1 j1 k1 s3 = (p, sw) := ⟨_, _, rfl⟩
      have m1 := median_bnd (ltOf (cfI s zs it)) d (n := d.size) 0 (show I - 1 < d.size by omega) (show I < d.size by omega) (show I + 1 < d.size by omega)
      rw [show median (ltOf (cfI s zs it)) d (I - 1) I (I + 1) 0 = (i1, s1) from e1] at m1
      have m2 := median_bnd (ltOf (cfI s zs it)) d (n := d.size) s1 (show J - 1 < d.size by omega) (show J < d.size by omega) (show J + 1 < d.size by omega)
      rw [show median (ltOf (cfI s zs it)) d (J - 1) J (J + 1) s1 = (j1, s2) from e2] at m2
      have m3 := median_bnd (ltOf (cfI s zs it)) d (n := d.size) s2 (show K - 1 < d.size by omega) (show K < d.size by omega) (show K + 1 < d.size by omega)
      rw [show median (ltOf (cfI s zs it)) d (K - 1) K (K + 1) s2 = (k1, s3) from e3] at m3
      dsimp only at m1 m2 m3
      have HRES := hide (RES.out p sw (by rw [if_pos h8, if_pos h50, e1]; dsimp only; rw [e2]; dsimp only; rw [e3]; exact e4))
      have C1 := HMA.out I 0 _ K0.out (by omega) (by omega) (by omega)
      rw [e1] at C1
      have C1 := hide C1
      have C2 : Hid (∀ W, CntK (encI it) 2 w0 blk off d w.heap.size s1 W → _) := hide fun W k => HMA.out J s1 W k (by omega) (by omega) (by omega)
      rw [e2] at C2
      have C3 : Hid (∀ W, CntK (encI it) 2 w0 blk off d w.heap.size s2 W → _) := hide fun W k => HMA.out K s2 W k (by omega) (by omega) (by omega)
      rw [e3] at C3
      have C4 : Hid (∀ W, CntK (encI it) 2 w0 blk off d w.heap.size s3 W → _) := hide fun W k => HMD.out i1 j1 k1 s3 W k m1.1 m2.1 m3.1 (by omega)
      rw [e4] at C4
      dsimp only at C1 C2 C3 C4
      clear e1 e2 e3 e4 HMA HMD RES K0 m1 m2 m3
      go_enter Try.func48, Try.ntmps48
      go_wp2_with fail
      refine C1.out.mono ?_
      rintro _ w1 ⟨rfl, k1'⟩
      have D2 := hide (C2.out w1 k1')
      clear k1'
      go_wp2_with fail
      refine D2.out.mono ?_
      rintro _ w2 ⟨rfl, k2'⟩
      have D3 := hide (C3.out w2 k2')
      clear k2'
      go_wp2_with fail
      refine D3.out.mono ?_
      rintro _ w3 ⟨rfl, k3'⟩
      have D4 := hide (C4.out w3 k3')
      clear k3'
      go_wp2_with fail
      refine D4.out.mono ?_
      rintro _ w4 ⟨rfl, k4'⟩
      have K4 := hide k4'
      clear k4'
      obtain ⟨S9, c9, f9, _, _⟩ := K4.out
      have HS9 := hide S9
      clear S9
      by_cases e0 : sw = 0
      · subst e0
        go_wp2
        go_ret2
        exact ⟨by rw [HRES.out]; rfl, HS9.out⟩
      · have e0z : ((sw : Int) == 0) = false := by simp; omega
        by_cases e1 : sw = 12
        · subst e1
          go_wp2
          go_ret2
          exact ⟨by rw [HRES.out]; rfl, HS9.out⟩
        · have e1z : ((sw : Int) == 12) = false := by simp; omega
          have HH : Hid (hcode (if sw = 0 then Hint.increasing else if sw = 12 then Hint.decreasing else Hint.unknown) = 0) := hide (by rw [if_neg e0, if_neg e1]; rfl)
          clear e0 e1
          go_wp2
          go_ret2
          exact ⟨by rw [HRES.out, HH.out]; rfl, HS9.out⟩
    · have h50z : ¬ 50 ≤ (ln : Int) := by omega
      obtain ⟨p, sw, e4⟩ : ∃ p sw, median (ltOf (cfI s zs it)) d I J K 0 = (p, sw) := ⟨_, _, rfl⟩
      have HRES := hide (RES.out p sw (by rw [if_pos h8, if_neg h50]; exact e4))
      have C4 := HMD.out I J K 0 _ K0.out (by omega) (by omega) (by omega) (by omega)
      rw [e4] at C4
      dsimp only at C4
      have C4 := hide C4
      clear e4 HMA HMD RES K0
      go_enter Try.func48, Try.ntmps48
      go_wp2_with fail
      refine C4.out.mono ?_
      rintro _ w4 ⟨rfl, k4'⟩
      have K4 := hide k4'
      clear k4'
      obtain ⟨S9, c9, f9, _, _⟩ := K4.out
      have HS9 := hide S9
      clear S9
      by_cases e0 : sw = 0
      · subst e0
        go_wp2
        go_ret2
        exact ⟨by rw [HRES.out]; rfl, HS9.out⟩
      · have e0z : ((sw : Int) == 0) = false := by simp; omega
        by_cases e1 : sw = 12
        · subst e1
          go_wp2
          go_ret2
          exact ⟨by rw [HRES.out]; rfl, HS9.out⟩
        · have e1z : ((sw : Int) == 12) = false := by simp; omega
          have HH : Hid (hcode (if sw = 0 then Hint.increasing else if sw = 12 then Hint.decreasing else Hint.unknown) = 0) := hide (by rw [if_neg e0, if_neg e1]; rfl)
          clear e0 e1
          go_wp2
          go_ret2
          exact ⟨by rw [HRES.out, HH.out]; rfl, HS9.out⟩
  · have h8z : ¬ 8 ≤ (ln : Int) := by omega
    have HRES := hide (RES.out J 0 (by rw [if_neg h8]))
    obtain ⟨S9, c9, f9, _, _⟩ := K0.out
    have HS9 := hide S9
    clear HMA HMD RES K0 S9 c9 f9
    go_enter Try.func48, Try.ntmps48
    go_wp2
    go_ret2
    exact ⟨by rw [HRES.out]; rfl, HS9.out⟩
end Go.Proofs.Ytiocgmeonfanmaa
