/-
  slices.medianCmpFunc, medianAdjacentCmpFunc at items.
-/
import Derived.Test.YtiocgmeonfanmaaStPa
namespace Go.Proofs.Ytiocgmeonfanmaa
open Go.RowKit Go.Sort Go.Shelf
set_option linter.unusedVariables false
set_option linter.unusedSimpArgs false
variable {α : Type} [Inhabited α]

theorem order2_bnd (lt : α → α → Bool) (d : Array α) {a b n : Nat} (sw : Nat) (ha : a < n) (hb : b < n) : (order2 lt d a b sw).1 < n ∧ (order2 lt d a b sw).2.1 < n ∧ (order2 lt d a b sw).2.2 ≤ sw + 1 := by
  cases h : lt d[b]! d[a]! <;> simp [order2, h, ha, hb]
set_option maxHeartbeats 1000000 in
set_option maxRecDepth 1000000 in
theorem medianI (it : α → Int × Int) (s : Int) (A : Option Addr) (l c B : Nat) (zs : List Int) (blk off cap a b c3 cc sw : Nat) (d0 d : Array α) (w0 w : World) (R : RowK (encI it) 2 w0 blk off d0) (C : CmpB s A l c B zs w0 blk) (hs : d.size = d0.size) (K : CntK (encI it) 2 w0 blk off d cc sw w) (ha : a < d.size) (hb : b < d.size) (hc : c3 < d.size) (hsz : d.size < 4611686018427387904) (hsw : sw + 3 < 4611686018427387904) :
    Calls Try.prog 69 #[.slice (some ⟨blk, off, none⟩) d.size cap, .int .i64 a, .int .i64 b, .int .i64 c3, .pointer (some ⟨cc, 0, none⟩), .func (.func 26) #[.agg #[.int .i64 s, .slice A l c]] #[]] w fun e w' => e = .returned (.int .i64 (median (ltOf (cfI s zs it)) d a b c3 sw).1) ∧ CntK (encI it) 2 w0 blk off d cc (median (ltOf (cfI s zs it)) d a b c3 sw).2 w' := by
  have HO := hide fun (a b sw : Nat) (w : World) (K : CntK (encI it) 2 w0 blk off d cc sw w) (ha : a < d.size) (hb : b < d.size) (hsw : sw < 4611686018427387904) => order2I it s A l c B zs blk off cap a b cc sw d0 d w0 w R C hs K ha hb hsz hsw
  obtain ⟨r1, hr1⟩ : ∃ r, r = order2 (ltOf (cfI s zs it)) d a b sw := ⟨_, rfl⟩
  obtain ⟨r2, hr2⟩ : ∃ r, r = order2 (ltOf (cfI s zs it)) d r1.2.1 c3 r1.2.2 := ⟨_, rfl⟩
  obtain ⟨r3, hr3⟩ : ∃ r, r = order2 (ltOf (cfI s zs it)) d r1.1 r2.1 r2.2.2 := ⟨_, rfl⟩
  have hm : median (ltOf (cfI s zs it)) d a b c3 sw = (r3.2.1, r3.2.2) := by simp only [median]; rw [hr3, hr2, hr1]
  have b1 := order2_bnd (ltOf (cfI s zs it)) d sw ha hb
  rw [← hr1] at b1
  have b2 := order2_bnd (ltOf (cfI s zs it)) d r1.2.2 b1.2.1 hc
  rw [← hr2] at b2
  have H1 := HO.out a b sw w K ha hb (by omega)
  rw [← hr1] at H1
  have HO2 : Hid (∀ w, CntK (encI it) 2 w0 blk off d cc r1.2.2 w → _) := hide fun w K => HO.out r1.2.1 c3 r1.2.2 w K b1.2.1 hc (by omega)
  have HO3 : Hid (∀ w, CntK (encI it) 2 w0 blk off d cc r2.2.2 w → _) := hide fun w K => HO.out r1.1 r2.1 r2.2.2 w K b1.1 b2.1 (by omega)
  rw [← hr2] at HO2
  rw [← hr3] at HO3
  rw [hm]
  obtain ⟨x1, y1, s1⟩ := r1
  obtain ⟨x2, y2, s2⟩ := r2
  obtain ⟨x3, y3, s3⟩ := r3
  dsimp only at H1 HO2 HO3 ⊢
  have HH1 := hide H1
  clear H1 hr1 hr2 hr3 hm b1 b2 HO hs K R C
  go_enter Try.func69, Try.ntmps69
  go_wp2_with fail
  refine HH1.out.mono ?_
  rintro _ w1 ⟨rfl, k1⟩
  have C2 := hide (HO2.out w1 k1)
  clear k1
  go_wp2_with fail
  refine C2.out.mono ?_
  rintro _ w2 ⟨rfl, k2⟩
  have C3 := hide (HO3.out w2 k2)
  clear k2
  go_wp2_with fail
  refine C3.out.mono ?_
  rintro _ w3 ⟨rfl, k3⟩
  have K3 := hide k3
  clear k3
  go_wp2
  go_ret
  exact ⟨rfl, K3.out⟩
set_option maxHeartbeats 1000000 in
theorem medianAdjI (it : α → Int × Int) (s : Int) (A : Option Addr) (l c B : Nat) (zs : List Int) (blk off cap a cc sw : Nat) (d0 d : Array α) (w0 w : World) (R : RowK (encI it) 2 w0 blk off d0) (C : CmpB s A l c B zs w0 blk) (hs : d.size = d0.size) (K : CntK (encI it) 2 w0 blk off d cc sw w) (ha0 : 0 < a) (ha : a + 1 < d.size) (hsz : d.size < 4611686018427387904) (hsw : sw + 3 < 4611686018427387904) :
    Calls Try.prog 68 #[.slice (some ⟨blk, off, none⟩) d.size cap, .int .i64 a, .pointer (some ⟨cc, 0, none⟩), .func (.func 26) #[.agg #[.int .i64 s, .slice A l c]] #[]] w fun e w' => e = .returned (.int .i64 (medianAdjacent (ltOf (cfI s zs it)) d a sw).1) ∧ CntK (encI it) 2 w0 blk off d cc (medianAdjacent (ltOf (cfI s zs it)) d a sw).2 w' := by
  obtain ⟨ap, rfl⟩ : ∃ ap, a = ap + 1 := ⟨a - 1, by omega⟩
  have H1 := medianI it s A l c B zs blk off cap ap (ap + 1) (ap + 1 + 1) cc sw d0 d w0 w R C hs K (by omega) (by omega) ha hsz hsw
  have hm : medianAdjacent (ltOf (cfI s zs it)) d (ap + 1) sw = median (ltOf (cfI s zs it)) d ap (ap + 1) (ap + 1 + 1) sw := by simp [medianAdjacent]
  rw [hm]
  rw [show ((ap + 1 + 1 : Nat) : Int) = (ap : Int) + 1 + 1 by omega, show ((ap + 1 : Nat) : Int) = (ap : Int) + 1 by omega] at H1
  rw [show ((ap + 1 : Nat) : Int) = (ap : Int) + 1 by omega]
  obtain ⟨r, hr⟩ : ∃ r, r = median (ltOf (cfI s zs it)) d ap (ap + 1) (ap + 1 + 1) sw := ⟨_, rfl⟩
  rw [← hr] at H1 ⊢
  have HH1 := hide H1
  clear H1 hm hr K R C hs
  go_enter Try.func68, Try.ntmps68
  go_wp2_with fail
  refine HH1.out.mono ?_
  rintro _ w1 ⟨rfl, k1⟩
  have K1 := hide k1
  clear k1
  go_wp2
  go_ret
  exact ⟨rfl, K1.out⟩
end Go.Proofs.Ytiocgmeonfanmaa
