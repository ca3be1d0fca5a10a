/-
  FnStableTwoKeys: the law returns true at every input, and changes nothing that was there.
-/
import Derived.ProofKit
import Derived.OpenShut
import Derived.JoinedCond
import Derived.Deep.CondSized
import Derived.SizedLaws
import Derived.WalkKit
import Derived.WalkLawsBesides
import Derived.Outline
import Derived.Deep.DeepMust
import Derived.Deep.RegionWith
import Derived.Test.YtiocgmeonfanmaaOpen
import Derived.Test.YtiocgmeonfanmaaSoS
import Derived.Test.YtiocgmeonfanmaaEqI
import Derived.Test.YtiocgmeonfanmaaRankW
import Derived.Test.YtiocgmeonfanmaaTwoP
import Derived.Test.YtiocgmeonfanmaaStab
namespace Go.Proofs.Ytiocgmeonfanmaa.fnStableTwoKeys
open Go.ChangeShapes Go.WideShapes Go.ChangeAt Go.RowKit
set_option linter.unusedVariables false
set_option linter.unusedSimpArgs false

theorem own_zero {w : World} {base : Nat} {e : TypeId} {sz : Nat} {v : Value} {n : Nat} {xs : List Value} (h : w.ownsRow base e sz v n xs) : w.ownsRow 0 e sz v n xs := ⟨h.1, h.2.imp id fun ⟨g, cap, cur, e1, e2, r⟩ => ⟨g, cap, cur, e1, Nat.zero_le _, r⟩⟩
theorem box_below {W W' : World} {B : Nat} {t : TypeId} {u v : Value} (h : Boxed2 W B t u v) (g : Below W.heap.size W W') : Boxed2 W' B t u v := (g.block B h.lt).trans h
/-- what the rounds keep: the box of both, its row, and all that was there beside -/
def TkInv (wx : World) (B0 n : Nat) (pre : List Int) (W : World) : Prop :=
  ∃ v, Boxed2 W B0 25 (.int .i64 n) v ∧ W.ownsRow wx.heap.size 3 1 v pre.length (ints pre) ∧ wx.grownBy W (some B0)
theorem own_block_ge {w : World} {base : Nat} {e : TypeId} {sz : Nat} {v : Value} {n : Nat} {xs : List Value} (h : w.ownsRow base e sz v n xs) {k : Nat} (hk : v.ownBlock = some k) : base ≤ k := by
  rcases h.2 with ⟨rfl, _⟩ | ⟨g, cap, cur, rfl, hb, _⟩
  · cases hk
  · injection hk with e; subst e; exact hb
theorem grown_mix {a b c : World} {B0 : Nat} {row : Option Nat} (h : a.grownBy b (some B0)) (k : b.grownBy c row) (hr : ∀ j, row = some j → a.heap.size ≤ j) : a.grownBy c (some B0) :=
  ⟨k.os.trans h.os, k.tape.trans h.tape, k.output.trans h.output, Nat.le_trans h.size k.size, fun i hi hne => (k.block i (Nat.lt_of_lt_of_le hi h.size) (fun e => by have := hr i e.symm; omega)).trans (h.block i hi hne)⟩
set_option maxRecDepth 100000 in
set_option maxHeartbeats 4000000 in
theorem walk (a0 : Option Addr) (l0 c0 : Nat) (z0 : List Int) (a1 : Option Addr) (l1 c1 : Nat) (z1 : List Int) (a2 : Option Addr) (l2 c2 : Nat) (z2 : List Int) (w : World) (k0 : l0 ≤ c0) (m0 : c0 ≤ maxLen) (r0 : Rd w w.heap.size 1 a0 l0 (ints z0)) (f0 : ∀ x ∈ z0, (Lit.int .i64 x).wf = true) (k1 : l1 ≤ c1) (m1 : c1 ≤ maxLen) (r1 : Rd w w.heap.size 1 a1 l1 (ints z1)) (f1 : ∀ x ∈ z1, (Lit.int .i64 x).wf = true) (k2 : l2 ≤ c2) (m2 : c2 ≤ maxLen) (r2 : Rd w w.heap.size 1 a2 l2 (ints z2)) (f2 : ∀ x ∈ z2, (Lit.int .i64 x).wf = true) (b0 : l0 * 8 ≤ 140737488351232) (b1 : l1 * 8 ≤ 140737488351232) (b2 : l2 * 8 ≤ 140737488351232) :
    Calls Try.prog 7 #[.slice a0 l0 c0, .slice a1 l1 c1, .slice a2 l2 c2] w fun e w' => e = .returned (.bool true) ∧ Below w.heap.size w w' := by
  have mixed := mixedI
  obtain ⟨n, hn⟩ : ∃ n : Nat, min (min l0 l1) l2 = n := ⟨_, rfl⟩
  have h0 : n ≤ l0 := by omega
  have h1 : n ≤ l1 := by omega
  have h2 : n ≤ l2 := by omega
  go_enter Try.func7, Try.ntmps7
  go_upto_region 1 with fail
  go_cut [7] (fun sv wx => sv = .int .i64 n ∧ w = wx)
  case first =>
    have HN := hide hn
    clear hn
    go_wp2_with fail
    all_goals (go_meet; exact ⟨by have := HN.out; congr 1; omega, rfl⟩)
  case rest =>
    obtain ⟨rfl, rfl⟩ := hcut
    clear hn
    have hz0 : z0.length = l0 := by have := r0.1; simpa using this
    have hz1 : z1.length = l1 := by have := r1.1; simpa using this
    have hz2 : z2.length = l2 := by have := r2.1; simpa using this
    obtain ⟨L, hL⟩ : ∃ L, L = z0.take n := ⟨_, rfl⟩
    obtain ⟨F, hF⟩ : ∃ F, F = z1.take n := ⟨_, rfl⟩
    obtain ⟨S, hS⟩ : ∃ S, S = z2.take n := ⟨_, rfl⟩
    have hLl : L.length = n := by rw [hL, List.length_take]; omega
    have hFl : F.length = n := by rw [hF, List.length_take]; omega
    have hSl : S.length = n := by rw [hS, List.length_take]; omega
    have t0 : Rd w w.heap.size 1 a0 n (ints L) := by have := r0.takeN h0; rw [hL]; rwa [ints, ← List.map_take] at this
    have t1 : Rd w w.heap.size 1 a1 n (ints F) := by have := r1.takeN h1; rw [hF]; rwa [ints, ← List.map_take] at this
    have t2 : Rd w w.heap.size 1 a2 n (ints S) := by have := r2.takeN h2; rw [hS]; rwa [ints, ← List.map_take] at this
    have HL := hide hLl
    have HF := hide hFl
    have HSS := hide hSl
    clear hz0 hz1 hz2 hL hF hS hLl hFl hSl r0 r1 r2 f0 f1 f2
    have hc0 : (n : Int) ≤ (c0 : Int) := by omega
    have hc1 : (n : Int) ≤ (c1 : Int) := by omega
    have hc2 : (n : Int) ≤ (c2 : Int) := by omega
    by_cases hb : 4096 < n
    · have hbz : 4096 < (n : Int) := by omega
      go_wp2_with fail
      go_ret
      exact ⟨rfl, Below.refl _ _⟩
    · have hbz : ¬ 4096 < (n : Int) := by omega
      have hn : n ≤ 4096 := by omega
      go_wp2_with fail
      refine (lawsItems a0 n c0 w.heap.size L w t0 (Nat.le_refl _) (by omega)).mono ?_
      rintro _ w1 ⟨Ax, dx, rfl, own1, g1⟩
      have q1 := Rd.of_own own1
      clear own1
      have hnn : n * n ≤ 16777216 := Nat.mul_le_mul hn hn
      have KX : KeyIn n (idxItems L) := by have := keyIn_idx L; rwa [HL.out] at this
      have HKX := hide KX
      clear KX
      go_wp2_with fail
      refine (lawsRanked a2 n c2 w.heap.size S w1 (t2.below g1) g1.size hn).mono ?_
      rintro _ w2 ⟨A2, m2, d2, rfl, own2, hm2, g2⟩
      subst hm2
      have q2 := Rd.of_own own2
      clear own2
      have G2 := g1.trans (g2.mono g1.size)
      go_wp2_with fail
      refine (implSortedStable Ax n dx (idxItems L) n A2 (n * n) d2 (rkPre S n) (by omega) (by omega) w2 ((q1.below g2).more g2.size) q2).mono ?_
      rintro _ w3 ⟨A3, d3, ts, rfl, hp3, hst3, own3, g3⟩
      have HTS := hide (hst3 (weak_one HSS.out hn HKX.out))
      have HKT := hide (HKX.out.perm hp3)
      have q3 := Rd.of_own own3
      clear own3 hp3 hst3 q2
      have G3 := G2.trans (g3.mono G2.size)
      have K13 : Below w1.heap.size w1 w3 := g2.trans (g3.mono g2.size)
      clear g2 g3
      go_wp2_with fail
      refine (lawsRanked a1 n c1 w.heap.size F w3 (t1.below G3) G3.size hn).mono ?_
      rintro _ w4 ⟨A4, m4, d4, rfl, own4, hm4, g4⟩
      subst hm4
      have q4 := Rd.of_own own4
      clear own4
      have G4 := G3.trans (g4.mono G3.size)
      go_wp2_with fail
      refine (implSortedStable A3 n d3 ts n A4 (n * n) d4 (rkPre F n) (by omega) (by omega) w4 ((q3.below g4).more g4.size) q4).mono ?_
      rintro _ w5 ⟨A5, d5, us, rfl, hp5, hst5, own5, g5⟩
      have HUS := hide (hst5 (weak_one HF.out hn HKT.out))
      have q5 := Rd.of_own own5
      clear own5 hp5 hst5 q4 q3
      have G5 := G4.trans (g5.mono G4.size)
      have q1 := (q1.below (K13.trans ((g4.trans (g5.mono g4.size)).mono K13.size))).more (Nat.le_trans K13.size (Nat.le_trans g4.size g5.size))
      clear g4 g5 K13 G2 G3 G4 g1
      obtain ⟨wb, hwb⟩ : ∃ wb, wb = w5.alloc (.cells #[.int .i64 n, .slice none 0 0] 25) := ⟨_, rfl⟩
      have G : Below w.heap.size w wb := by rw [hwb]; exact G5.alloc G5.size _
      have GB : Below w5.heap.size w5 wb := by rw [hwb]; exact (Below.refl _ w5).alloc (Nat.le_refl _) _
      have bb : Hid (Boxed2 wb w5.heap.size 25 (.int .i64 n) (.slice none 0 0)) := hide (by rw [hwb]; exact Boxed2.new w5 _ _ _)
      have ltb : w5.heap.size < wb.heap.size := bb.out.lt
      go_upto_region 8 with fail
      rw [← hwb]
      clear hwb
      go_cut [12, 13] (fun s12 s13 wx => ∃ B12 B13 A6 d6 A7 d7, s12 = .pointer (some ⟨B12, 0, none⟩) ∧ s13 = .pointer (some ⟨B13, 0, none⟩) ∧ Hid (Boxed2 wx B12 25 (.int .i64 n) (.slice A6 (n * n) d6) ∧ Boxed2 wx B13 25 (.int .i64 n) (.slice A7 (n * n) d7) ∧ wx.ownsRow 0 3 1 (.slice A6 (n * n) d6) (n * n) (ints (rkPre F n)) ∧ wx.ownsRow 0 3 1 (.slice A7 (n * n) d7) (n * n) (ints (rkPre S n)) ∧ Boxed2 wx w5.heap.size 25 (.int .i64 n) (.slice none 0 0) ∧ Below wb.heap.size wb wx ∧ wb.heap.size ≤ B12 ∧ wb.heap.size ≤ B13))
      case first =>
        have KB : Below wb.heap.size wb wb.drew := (Below.refl _ _).drew
        have G : Below w.heap.size w wb.drew := G.drew
        have bb : Hid (Boxed2 wb.drew w5.heap.size 25 (.int .i64 n) (.slice none 0 0)) := hide bb.out
        refine wp_region_any mixed ?_
        change wpAny _ _ _ _ _ _ _ wb.drew
        obtain ⟨W0, hW0⟩ : ∃ W0, W0 = wb.drew := ⟨_, rfl⟩
        rw [← hW0] at KB G bb ⊢
        clear hW0
        refine wpAny_take (i := 0) (v := ?v0) rfl (by kernel_rfl) (by kernel_rfl) (by kernel_rfl) (fun _ _ _ h => h) (Or.inl ⟨by rfl, ?y0⟩) ?r0
        case y0 => (intro w; go_simp; try with_reducible rfl)
        (try go_simp)
        refine wpAny_take (i := 1) (v := ?v1) rfl (by kernel_rfl) (by kernel_rfl) (by kernel_rfl) (fun _ _ _ h => h) (Or.inl ⟨by rfl, ?y1⟩) ?r1
        case y1 => (intro w; go_simp; try with_reducible rfl)
        (try go_simp)
        refine wpAny_take (i := 2) (v := ?v2) rfl (by kernel_rfl) (by kernel_rfl) (by kernel_rfl) (fun _ _ _ h => h) (Or.inl ⟨by rfl, ?y2⟩) ?r2
        case y2 => (intro w; go_simp; try with_reducible rfl)
        (try go_simp)
        refine wpAny_take (i := 4) (v := ?v4) rfl (by kernel_rfl) (by kernel_rfl) (by kernel_rfl) (fun _ _ _ h => h) (Or.inl ⟨by rfl, ?y4⟩) ?r4
        case y4 => (intro w; go_simp; try with_reducible rfl)
        (try go_simp)
        refine wpAny_take (i := 5) (v := ?v5) rfl (by kernel_rfl) (by kernel_rfl) (by kernel_rfl) (fun _ _ _ h => h) (Or.inl ⟨by rfl, ?y5⟩) ?r5
        case y5 => (intro w; go_simp; try with_reducible rfl)
        (try go_simp)
        refine wpAny_take (i := 6) (v := ?v6) rfl (by kernel_rfl) (by kernel_rfl) (by kernel_rfl) (fun _ _ _ h => h) (Or.inl ⟨by rfl, ?y6⟩) ?r6
        case y6 => (intro w; go_simp; try with_reducible rfl)
        (try go_simp)
        refine wpAny_ready (rs := [3, 8, 9]) (by kernel_rfl) (by simp) ?_
        refine AllReady.cons rfl (fun K hK => ?_) (AllReady.cons rfl (fun K hK => ?_) (AllReady.cons rfl (fun K hK => ?_) AllReady.nil))
        · go_simp
          go_wp2_with (go_at_call 22; refine (lawsRanked a1 n c1 w.heap.size F _ (t1.below G) G.size hn).mono ?_; rintro _ W1 ⟨A6, m6, d6, rfl, own6, hm6, g⟩; subst hm6; have o6 := hide (own_zero own6); clear own6; have G := G.trans (g.mono G.size); have bb := hide (box_below bb.out g); have KB := KB.trans (g.mono KB.size); clear g)
          refine wpAny_ready (rs := [7, 8, 9]) (by kernel_rfl) (by simp) ?_
          refine AllReady.cons rfl (fun K hK => ?_) (AllReady.cons rfl (fun K hK => ?_) (AllReady.cons rfl (fun K hK => ?_) AllReady.nil))
          · go_simp
            go_wp2_with (go_at_call 22; refine (lawsRanked a2 n c2 w.heap.size S _ (t2.below G) G.size hn).mono ?_; rintro _ W2 ⟨A7, m7, d7, rfl, own7, hm7, g⟩; subst hm7; have o7 := hide (own_zero own7); clear own7; have G := G.trans (g.mono G.size); have bb := hide (box_below bb.out g); have KB := KB.trans (g.mono KB.size); have o6 := hide (own_below2 o6.out g (Nat.le_refl _)); clear g)
            refine wpAny_ready (rs := [8, 9]) (by kernel_rfl) (by simp) ?_
            refine AllReady.cons rfl (fun K hK => ?_) (AllReady.cons rfl (fun K hK => ?_) AllReady.nil)
            · go_simp
              refine hK _ _ ?_
              clear hK K
              obtain ⟨W3, hV⟩ : ∃ V, V = W2.alloc (.cells #[.int .i64 0, .slice none 0 0] 25) := ⟨_, rfl⟩
              have g : Below W2.heap.size W2 W3 := by rw [hV]; exact (Below.refl _ W2).alloc (Nat.le_refl _) _
              have x12 : Hid (Boxed2 W3 W2.heap.size 25 (.int .i64 0) (.slice none 0 0)) := hide (by rw [hV]; exact Boxed2.new W2 _ _ _)
              have lx12 : W2.heap.size < W3.heap.size := by rw [hV]; simp
              obtain ⟨B12, hB12⟩ : ∃ B, B = W2.heap.size := ⟨_, rfl⟩
              have nx12 : Hid (B12 = W2.heap.size) := hide hB12
              have geB12 : wb.heap.size ≤ B12 := by have := KB.size; omega
              rw [← hV, ← hB12]
              rw [← hB12] at x12
              clear hV hB12 lx12
              have G := G.trans (g.mono G.size)
              have bb := hide (box_below bb.out g)
              have KB := KB.trans (g.mono KB.size)
              have o6 := hide (own_below2 o6.out g (Nat.le_refl _))
              have o7 := hide (own_below2 o7.out g (Nat.le_refl _))
              have ltx12 : B12 < W3.heap.size := x12.out.lt
              clear nx12 g
              refine wpAny_ready (rs := [9]) (by kernel_rfl) (by simp) ?_
              refine AllReady.cons rfl (fun K hK => ?_) AllReady.nil
              · go_simp
                refine hK _ _ ?_
                clear hK K
                obtain ⟨W4, hV⟩ : ∃ V, V = W3.alloc (.cells #[.int .i64 0, .slice none 0 0] 25) := ⟨_, rfl⟩
                have g : Below W3.heap.size W3 W4 := by rw [hV]; exact (Below.refl _ W3).alloc (Nat.le_refl _) _
                have x13 : Hid (Boxed2 W4 W3.heap.size 25 (.int .i64 0) (.slice none 0 0)) := hide (by rw [hV]; exact Boxed2.new W3 _ _ _)
                have lx13 : W3.heap.size < W4.heap.size := by rw [hV]; simp
                obtain ⟨B13, hB13⟩ : ∃ B, B = W3.heap.size := ⟨_, rfl⟩
                have nx13 : Hid (B13 = W3.heap.size) := hide hB13
                have geB13 : wb.heap.size ≤ B13 := by have := KB.size; omega
                rw [← hV, ← hB13]
                rw [← hB13] at x13
                clear hV hB13 lx13
                have G := G.trans (g.mono G.size)
                have bb := hide (box_below bb.out g)
                have KB := KB.trans (g.mono KB.size)
                have x12 := hide (box_below x12.out g)
                have o6 := hide (own_below2 o6.out g (Nat.le_refl _))
                have o7 := hide (own_below2 o7.out g (Nat.le_refl _))
                have hne : B12 ≠ B13 := by have := nx13.out; have := ltx12; omega
                have ltx13 : B13 < W4.heap.size := x13.out.lt
                clear nx13 g
                clear ltx12
                have e0 := x12.out.cell0
                have e1 := x12.out.cell1
                have f0 := x12.out.frozen (j := 0)
                have f1 := x12.out.frozen (j := 1)
                refine wpAny_ready (rs := [10]) (by kernel_rfl) (by simp) ?_
                refine AllReady.cons rfl (fun K hK => ?_) AllReady.nil
                go_simp
                refine hK _ _ ?_
                clear hK K e0 e1 f0 f1
                obtain ⟨V1, hV⟩ : ∃ V, V = (W4.setCell ⟨B12, 0, none⟩ (.int .i64 n)).setCell ⟨B12, 1, none⟩ (.slice A6 (n * n) d6) := ⟨_, rfl⟩
                rw [← hV]
                have y12 : Hid (Boxed2 V1 B12 25 (.int .i64 n) (.slice A6 (n * n) d6)) := hide (by rw [hV]; exact (x12.out.set0 _).set1 _)
                have g : W4.grownBy V1 (some B12) := by rw [hV]; exact grown_tr (grownBy_set1 _ _ 0 _) (grownBy_set1 _ _ 1 _)
                clear hV
                have o6 := hide (o6.out.kept g (.inr fun e => x12.out.not_row (by decide) o6.out e.symm))
                have o7 := hide (o7.out.kept g (.inr fun e => x12.out.not_row (by decide) o7.out e.symm))
                have x13 := hide (x13.out.kept g (fun e => hne (by injection e with e; exact e.symm)))
                have bb := hide (bb.out.kept g (fun e => by injection e with e; omega))
                have KB := KB.grown g KB.size (fun k e => by cases e; exact geB12)
                clear g x12
                have e0 := x13.out.cell0
                have e1 := x13.out.cell1
                have f0 := x13.out.frozen (j := 0)
                have f1 := x13.out.frozen (j := 1)
                refine wpAny_ready (rs := [11]) (by kernel_rfl) (by simp) ?_
                refine AllReady.cons rfl (fun K hK => ?_) AllReady.nil
                go_simp
                refine hK _ _ ?_
                clear hK K e0 e1 f0 f1
                obtain ⟨V2, hV⟩ : ∃ V, V = (V1.setCell ⟨B13, 0, none⟩ (.int .i64 n)).setCell ⟨B13, 1, none⟩ (.slice A7 (n * n) d7) := ⟨_, rfl⟩
                rw [← hV]
                have y13 : Hid (Boxed2 V2 B13 25 (.int .i64 n) (.slice A7 (n * n) d7)) := hide (by rw [hV]; exact (x13.out.set0 _).set1 _)
                have g : V1.grownBy V2 (some B13) := by rw [hV]; exact grown_tr (grownBy_set1 _ _ 0 _) (grownBy_set1 _ _ 1 _)
                clear hV
                have o6 := hide (o6.out.kept g (.inr fun e => x13.out.not_row (by decide) o6.out e.symm))
                have o7 := hide (o7.out.kept g (.inr fun e => x13.out.not_row (by decide) o7.out e.symm))
                have y12 := hide (y12.out.kept g (fun e => hne (by injection e)))
                have bb := hide (bb.out.kept g (fun e => by injection e with e; omega))
                have KB := KB.grown g KB.size (fun k e => by cases e; exact geB13)
                clear g x13
                refine wpAny_done (by kernel_rfl) ?_ _
                go_wp2_with fail
                go_meet
                exact ⟨B12, B13, A6, d6, A7, d7, rfl, rfl, hide ⟨y12.out, y13.out, o6.out, o7.out, bb.out, KB, geB12, geB13⟩⟩
            · go_simp
              refine hK _ _ ?_
              clear hK K
              obtain ⟨W3, hV⟩ : ∃ V, V = W2.alloc (.cells #[.int .i64 0, .slice none 0 0] 25) := ⟨_, rfl⟩
              have g : Below W2.heap.size W2 W3 := by rw [hV]; exact (Below.refl _ W2).alloc (Nat.le_refl _) _
              have x13 : Hid (Boxed2 W3 W2.heap.size 25 (.int .i64 0) (.slice none 0 0)) := hide (by rw [hV]; exact Boxed2.new W2 _ _ _)
              have lx13 : W2.heap.size < W3.heap.size := by rw [hV]; simp
              obtain ⟨B13, hB13⟩ : ∃ B, B = W2.heap.size := ⟨_, rfl⟩
              have nx13 : Hid (B13 = W2.heap.size) := hide hB13
              have geB13 : wb.heap.size ≤ B13 := by have := KB.size; omega
              rw [← hV, ← hB13]
              rw [← hB13] at x13
              clear hV hB13 lx13
              have G := G.trans (g.mono G.size)
              have bb := hide (box_below bb.out g)
              have KB := KB.trans (g.mono KB.size)
              have o6 := hide (own_below2 o6.out g (Nat.le_refl _))
              have o7 := hide (own_below2 o7.out g (Nat.le_refl _))
              have ltx13 : B13 < W3.heap.size := x13.out.lt
              clear nx13 g
              refine wpAny_ready (rs := [8]) (by kernel_rfl) (by simp) ?_
              refine AllReady.cons rfl (fun K hK => ?_) AllReady.nil
              · go_simp
                refine hK _ _ ?_
                clear hK K
                obtain ⟨W4, hV⟩ : ∃ V, V = W3.alloc (.cells #[.int .i64 0, .slice none 0 0] 25) := ⟨_, rfl⟩
                have g : Below W3.heap.size W3 W4 := by rw [hV]; exact (Below.refl _ W3).alloc (Nat.le_refl _) _
                have x12 : Hid (Boxed2 W4 W3.heap.size 25 (.int .i64 0) (.slice none 0 0)) := hide (by rw [hV]; exact Boxed2.new W3 _ _ _)
                have lx12 : W3.heap.size < W4.heap.size := by rw [hV]; simp
                obtain ⟨B12, hB12⟩ : ∃ B, B = W3.heap.size := ⟨_, rfl⟩
                have nx12 : Hid (B12 = W3.heap.size) := hide hB12
                have geB12 : wb.heap.size ≤ B12 := by have := KB.size; omega
                rw [← hV, ← hB12]
                rw [← hB12] at x12
                clear hV hB12 lx12
                have G := G.trans (g.mono G.size)
                have bb := hide (box_below bb.out g)
                have KB := KB.trans (g.mono KB.size)
                have x13 := hide (box_below x13.out g)
                have o6 := hide (own_below2 o6.out g (Nat.le_refl _))
                have o7 := hide (own_below2 o7.out g (Nat.le_refl _))
                have hne : B12 ≠ B13 := by have := nx12.out; have := ltx13; omega
                have ltx12 : B12 < W4.heap.size := x12.out.lt
                clear nx12 g
                clear ltx13
                have e0 := x12.out.cell0
                have e1 := x12.out.cell1
                have f0 := x12.out.frozen (j := 0)
                have f1 := x12.out.frozen (j := 1)
                refine wpAny_ready (rs := [10]) (by kernel_rfl) (by simp) ?_
                refine AllReady.cons rfl (fun K hK => ?_) AllReady.nil
                go_simp
                refine hK _ _ ?_
                clear hK K e0 e1 f0 f1
                obtain ⟨V1, hV⟩ : ∃ V, V = (W4.setCell ⟨B12, 0, none⟩ (.int .i64 n)).setCell ⟨B12, 1, none⟩ (.slice A6 (n * n) d6) := ⟨_, rfl⟩
                rw [← hV]
                have y12 : Hid (Boxed2 V1 B12 25 (.int .i64 n) (.slice A6 (n * n) d6)) := hide (by rw [hV]; exact (x12.out.set0 _).set1 _)
                have g : W4.grownBy V1 (some B12) := by rw [hV]; exact grown_tr (grownBy_set1 _ _ 0 _) (grownBy_set1 _ _ 1 _)
                clear hV
                have o6 := hide (o6.out.kept g (.inr fun e => x12.out.not_row (by decide) o6.out e.symm))
                have o7 := hide (o7.out.kept g (.inr fun e => x12.out.not_row (by decide) o7.out e.symm))
                have x13 := hide (x13.out.kept g (fun e => hne (by injection e with e; exact e.symm)))
                have bb := hide (bb.out.kept g (fun e => by injection e with e; omega))
                have KB := KB.grown g KB.size (fun k e => by cases e; exact geB12)
                clear g x12
                have e0 := x13.out.cell0
                have e1 := x13.out.cell1
                have f0 := x13.out.frozen (j := 0)
                have f1 := x13.out.frozen (j := 1)
                refine wpAny_ready (rs := [11]) (by kernel_rfl) (by simp) ?_
                refine AllReady.cons rfl (fun K hK => ?_) AllReady.nil
                go_simp
                refine hK _ _ ?_
                clear hK K e0 e1 f0 f1
                obtain ⟨V2, hV⟩ : ∃ V, V = (V1.setCell ⟨B13, 0, none⟩ (.int .i64 n)).setCell ⟨B13, 1, none⟩ (.slice A7 (n * n) d7) := ⟨_, rfl⟩
                rw [← hV]
                have y13 : Hid (Boxed2 V2 B13 25 (.int .i64 n) (.slice A7 (n * n) d7)) := hide (by rw [hV]; exact (x13.out.set0 _).set1 _)
                have g : V1.grownBy V2 (some B13) := by rw [hV]; exact grown_tr (grownBy_set1 _ _ 0 _) (grownBy_set1 _ _ 1 _)
                clear hV
                have o6 := hide (o6.out.kept g (.inr fun e => x13.out.not_row (by decide) o6.out e.symm))
                have o7 := hide (o7.out.kept g (.inr fun e => x13.out.not_row (by decide) o7.out e.symm))
                have y12 := hide (y12.out.kept g (fun e => hne (by injection e)))
                have bb := hide (bb.out.kept g (fun e => by injection e with e; omega))
                have KB := KB.grown g KB.size (fun k e => by cases e; exact geB13)
                clear g x13
                refine wpAny_done (by kernel_rfl) ?_ _
                go_wp2_with fail
                go_meet
                exact ⟨B12, B13, A6, d6, A7, d7, rfl, rfl, hide ⟨y12.out, y13.out, o6.out, o7.out, bb.out, KB, geB12, geB13⟩⟩
          · go_simp
            refine hK _ _ ?_
            clear hK K
            obtain ⟨W2, hV⟩ : ∃ V, V = W1.alloc (.cells #[.int .i64 0, .slice none 0 0] 25) := ⟨_, rfl⟩
            have g : Below W1.heap.size W1 W2 := by rw [hV]; exact (Below.refl _ W1).alloc (Nat.le_refl _) _
            have x12 : Hid (Boxed2 W2 W1.heap.size 25 (.int .i64 0) (.slice none 0 0)) := hide (by rw [hV]; exact Boxed2.new W1 _ _ _)
            have lx12 : W1.heap.size < W2.heap.size := by rw [hV]; simp
            obtain ⟨B12, hB12⟩ : ∃ B, B = W1.heap.size := ⟨_, rfl⟩
            have nx12 : Hid (B12 = W1.heap.size) := hide hB12
            have geB12 : wb.heap.size ≤ B12 := by have := KB.size; omega
            rw [← hV, ← hB12]
            rw [← hB12] at x12
            clear hV hB12 lx12
            have G := G.trans (g.mono G.size)
            have bb := hide (box_below bb.out g)
            have KB := KB.trans (g.mono KB.size)
            have o6 := hide (own_below2 o6.out g (Nat.le_refl _))
            have ltx12 : B12 < W2.heap.size := x12.out.lt
            clear nx12 g
            refine wpAny_ready (rs := [7, 9]) (by kernel_rfl) (by simp) ?_
            refine AllReady.cons rfl (fun K hK => ?_) (AllReady.cons rfl (fun K hK => ?_) AllReady.nil)
            · go_simp
              go_wp2_with (go_at_call 22; refine (lawsRanked a2 n c2 w.heap.size S _ (t2.below G) G.size hn).mono ?_; rintro _ W3 ⟨A7, m7, d7, rfl, own7, hm7, g⟩; subst hm7; have o7 := hide (own_zero own7); clear own7; have G := G.trans (g.mono G.size); have bb := hide (box_below bb.out g); have KB := KB.trans (g.mono KB.size); have x12 := hide (box_below x12.out g); have o6 := hide (own_below2 o6.out g (Nat.le_refl _)); clear g)
              have ltx12 := x12.out.lt
              refine wpAny_ready (rs := [9]) (by kernel_rfl) (by simp) ?_
              refine AllReady.cons rfl (fun K hK => ?_) AllReady.nil
              · go_simp
                refine hK _ _ ?_
                clear hK K
                obtain ⟨W4, hV⟩ : ∃ V, V = W3.alloc (.cells #[.int .i64 0, .slice none 0 0] 25) := ⟨_, rfl⟩
                have g : Below W3.heap.size W3 W4 := by rw [hV]; exact (Below.refl _ W3).alloc (Nat.le_refl _) _
                have x13 : Hid (Boxed2 W4 W3.heap.size 25 (.int .i64 0) (.slice none 0 0)) := hide (by rw [hV]; exact Boxed2.new W3 _ _ _)
                have lx13 : W3.heap.size < W4.heap.size := by rw [hV]; simp
                obtain ⟨B13, hB13⟩ : ∃ B, B = W3.heap.size := ⟨_, rfl⟩
                have nx13 : Hid (B13 = W3.heap.size) := hide hB13
                have geB13 : wb.heap.size ≤ B13 := by have := KB.size; omega
                rw [← hV, ← hB13]
                rw [← hB13] at x13
                clear hV hB13 lx13
                have G := G.trans (g.mono G.size)
                have bb := hide (box_below bb.out g)
                have KB := KB.trans (g.mono KB.size)
                have x12 := hide (box_below x12.out g)
                have o6 := hide (own_below2 o6.out g (Nat.le_refl _))
                have o7 := hide (own_below2 o7.out g (Nat.le_refl _))
                have hne : B12 ≠ B13 := by have := nx13.out; have := ltx12; omega
                have ltx13 : B13 < W4.heap.size := x13.out.lt
                clear nx13 g
                clear ltx12
                have e0 := x12.out.cell0
                have e1 := x12.out.cell1
                have f0 := x12.out.frozen (j := 0)
                have f1 := x12.out.frozen (j := 1)
                refine wpAny_ready (rs := [10]) (by kernel_rfl) (by simp) ?_
                refine AllReady.cons rfl (fun K hK => ?_) AllReady.nil
                go_simp
                refine hK _ _ ?_
                clear hK K e0 e1 f0 f1
                obtain ⟨V1, hV⟩ : ∃ V, V = (W4.setCell ⟨B12, 0, none⟩ (.int .i64 n)).setCell ⟨B12, 1, none⟩ (.slice A6 (n * n) d6) := ⟨_, rfl⟩
                rw [← hV]
                have y12 : Hid (Boxed2 V1 B12 25 (.int .i64 n) (.slice A6 (n * n) d6)) := hide (by rw [hV]; exact (x12.out.set0 _).set1 _)
                have g : W4.grownBy V1 (some B12) := by rw [hV]; exact grown_tr (grownBy_set1 _ _ 0 _) (grownBy_set1 _ _ 1 _)
                clear hV
                have o6 := hide (o6.out.kept g (.inr fun e => x12.out.not_row (by decide) o6.out e.symm))
                have o7 := hide (o7.out.kept g (.inr fun e => x12.out.not_row (by decide) o7.out e.symm))
                have x13 := hide (x13.out.kept g (fun e => hne (by injection e with e; exact e.symm)))
                have bb := hide (bb.out.kept g (fun e => by injection e with e; omega))
                have KB := KB.grown g KB.size (fun k e => by cases e; exact geB12)
                clear g x12
                have e0 := x13.out.cell0
                have e1 := x13.out.cell1
                have f0 := x13.out.frozen (j := 0)
                have f1 := x13.out.frozen (j := 1)
                refine wpAny_ready (rs := [11]) (by kernel_rfl) (by simp) ?_
                refine AllReady.cons rfl (fun K hK => ?_) AllReady.nil
                go_simp
                refine hK _ _ ?_
                clear hK K e0 e1 f0 f1
                obtain ⟨V2, hV⟩ : ∃ V, V = (V1.setCell ⟨B13, 0, none⟩ (.int .i64 n)).setCell ⟨B13, 1, none⟩ (.slice A7 (n * n) d7) := ⟨_, rfl⟩
                rw [← hV]
                have y13 : Hid (Boxed2 V2 B13 25 (.int .i64 n) (.slice A7 (n * n) d7)) := hide (by rw [hV]; exact (x13.out.set0 _).set1 _)
                have g : V1.grownBy V2 (some B13) := by rw [hV]; exact grown_tr (grownBy_set1 _ _ 0 _) (grownBy_set1 _ _ 1 _)
                clear hV
                have o6 := hide (o6.out.kept g (.inr fun e => x13.out.not_row (by decide) o6.out e.symm))
                have o7 := hide (o7.out.kept g (.inr fun e => x13.out.not_row (by decide) o7.out e.symm))
                have y12 := hide (y12.out.kept g (fun e => hne (by injection e)))
                have bb := hide (bb.out.kept g (fun e => by injection e with e; omega))
                have KB := KB.grown g KB.size (fun k e => by cases e; exact geB13)
                clear g x13
                refine wpAny_done (by kernel_rfl) ?_ _
                go_wp2_with fail
                go_meet
                exact ⟨B12, B13, A6, d6, A7, d7, rfl, rfl, hide ⟨y12.out, y13.out, o6.out, o7.out, bb.out, KB, geB12, geB13⟩⟩
            · go_simp
              refine hK _ _ ?_
              clear hK K
              obtain ⟨W3, hV⟩ : ∃ V, V = W2.alloc (.cells #[.int .i64 0, .slice none 0 0] 25) := ⟨_, rfl⟩
              have g : Below W2.heap.size W2 W3 := by rw [hV]; exact (Below.refl _ W2).alloc (Nat.le_refl _) _
              have x13 : Hid (Boxed2 W3 W2.heap.size 25 (.int .i64 0) (.slice none 0 0)) := hide (by rw [hV]; exact Boxed2.new W2 _ _ _)
              have lx13 : W2.heap.size < W3.heap.size := by rw [hV]; simp
              obtain ⟨B13, hB13⟩ : ∃ B, B = W2.heap.size := ⟨_, rfl⟩
              have nx13 : Hid (B13 = W2.heap.size) := hide hB13
              have geB13 : wb.heap.size ≤ B13 := by have := KB.size; omega
              rw [← hV, ← hB13]
              rw [← hB13] at x13
              clear hV hB13 lx13
              have G := G.trans (g.mono G.size)
              have bb := hide (box_below bb.out g)
              have KB := KB.trans (g.mono KB.size)
              have x12 := hide (box_below x12.out g)
              have o6 := hide (own_below2 o6.out g (Nat.le_refl _))
              have hne : B12 ≠ B13 := by have := nx13.out; have := ltx12; omega
              have ltx13 : B13 < W3.heap.size := x13.out.lt
              clear nx13 g
              clear ltx12
              refine wpAny_ready (rs := [7]) (by kernel_rfl) (by simp) ?_
              refine AllReady.cons rfl (fun K hK => ?_) AllReady.nil
              · go_simp
                go_wp2_with (go_at_call 22; refine (lawsRanked a2 n c2 w.heap.size S _ (t2.below G) G.size hn).mono ?_; rintro _ W4 ⟨A7, m7, d7, rfl, own7, hm7, g⟩; subst hm7; have o7 := hide (own_zero own7); clear own7; have G := G.trans (g.mono G.size); have bb := hide (box_below bb.out g); have KB := KB.trans (g.mono KB.size); have x12 := hide (box_below x12.out g); have x13 := hide (box_below x13.out g); have o6 := hide (own_below2 o6.out g (Nat.le_refl _)); clear g)
                have e0 := x12.out.cell0
                have e1 := x12.out.cell1
                have f0 := x12.out.frozen (j := 0)
                have f1 := x12.out.frozen (j := 1)
                refine wpAny_ready (rs := [10]) (by kernel_rfl) (by simp) ?_
                refine AllReady.cons rfl (fun K hK => ?_) AllReady.nil
                go_simp
                refine hK _ _ ?_
                clear hK K e0 e1 f0 f1
                obtain ⟨V1, hV⟩ : ∃ V, V = (W4.setCell ⟨B12, 0, none⟩ (.int .i64 n)).setCell ⟨B12, 1, none⟩ (.slice A6 (n * n) d6) := ⟨_, rfl⟩
                rw [← hV]
                have y12 : Hid (Boxed2 V1 B12 25 (.int .i64 n) (.slice A6 (n * n) d6)) := hide (by rw [hV]; exact (x12.out.set0 _).set1 _)
                have g : W4.grownBy V1 (some B12) := by rw [hV]; exact grown_tr (grownBy_set1 _ _ 0 _) (grownBy_set1 _ _ 1 _)
                clear hV
                have o6 := hide (o6.out.kept g (.inr fun e => x12.out.not_row (by decide) o6.out e.symm))
                have o7 := hide (o7.out.kept g (.inr fun e => x12.out.not_row (by decide) o7.out e.symm))
                have x13 := hide (x13.out.kept g (fun e => hne (by injection e with e; exact e.symm)))
                have bb := hide (bb.out.kept g (fun e => by injection e with e; omega))
                have KB := KB.grown g KB.size (fun k e => by cases e; exact geB12)
                clear g x12
                have e0 := x13.out.cell0
                have e1 := x13.out.cell1
                have f0 := x13.out.frozen (j := 0)
                have f1 := x13.out.frozen (j := 1)
                refine wpAny_ready (rs := [11]) (by kernel_rfl) (by simp) ?_
                refine AllReady.cons rfl (fun K hK => ?_) AllReady.nil
                go_simp
                refine hK _ _ ?_
                clear hK K e0 e1 f0 f1
                obtain ⟨V2, hV⟩ : ∃ V, V = (V1.setCell ⟨B13, 0, none⟩ (.int .i64 n)).setCell ⟨B13, 1, none⟩ (.slice A7 (n * n) d7) := ⟨_, rfl⟩
                rw [← hV]
                have y13 : Hid (Boxed2 V2 B13 25 (.int .i64 n) (.slice A7 (n * n) d7)) := hide (by rw [hV]; exact (x13.out.set0 _).set1 _)
                have g : V1.grownBy V2 (some B13) := by rw [hV]; exact grown_tr (grownBy_set1 _ _ 0 _) (grownBy_set1 _ _ 1 _)
                clear hV
                have o6 := hide (o6.out.kept g (.inr fun e => x13.out.not_row (by decide) o6.out e.symm))
                have o7 := hide (o7.out.kept g (.inr fun e => x13.out.not_row (by decide) o7.out e.symm))
                have y12 := hide (y12.out.kept g (fun e => hne (by injection e)))
                have bb := hide (bb.out.kept g (fun e => by injection e with e; omega))
                have KB := KB.grown g KB.size (fun k e => by cases e; exact geB13)
                clear g x13
                refine wpAny_done (by kernel_rfl) ?_ _
                go_wp2_with fail
                go_meet
                exact ⟨B12, B13, A6, d6, A7, d7, rfl, rfl, hide ⟨y12.out, y13.out, o6.out, o7.out, bb.out, KB, geB12, geB13⟩⟩
          · go_simp
            refine hK _ _ ?_
            clear hK K
            obtain ⟨W2, hV⟩ : ∃ V, V = W1.alloc (.cells #[.int .i64 0, .slice none 0 0] 25) := ⟨_, rfl⟩
            have g : Below W1.heap.size W1 W2 := by rw [hV]; exact (Below.refl _ W1).alloc (Nat.le_refl _) _
            have x13 : Hid (Boxed2 W2 W1.heap.size 25 (.int .i64 0) (.slice none 0 0)) := hide (by rw [hV]; exact Boxed2.new W1 _ _ _)
            have lx13 : W1.heap.size < W2.heap.size := by rw [hV]; simp
            obtain ⟨B13, hB13⟩ : ∃ B, B = W1.heap.size := ⟨_, rfl⟩
            have nx13 : Hid (B13 = W1.heap.size) := hide hB13
            have geB13 : wb.heap.size ≤ B13 := by have := KB.size; omega
            rw [← hV, ← hB13]
            rw [← hB13] at x13
            clear hV hB13 lx13
            have G := G.trans (g.mono G.size)
            have bb := hide (box_below bb.out g)
            have KB := KB.trans (g.mono KB.size)
            have o6 := hide (own_below2 o6.out g (Nat.le_refl _))
            have ltx13 : B13 < W2.heap.size := x13.out.lt
            clear nx13 g
            refine wpAny_ready (rs := [7, 8]) (by kernel_rfl) (by simp) ?_
            refine AllReady.cons rfl (fun K hK => ?_) (AllReady.cons rfl (fun K hK => ?_) AllReady.nil)
            · go_simp
              go_wp2_with (go_at_call 22; refine (lawsRanked a2 n c2 w.heap.size S _ (t2.below G) G.size hn).mono ?_; rintro _ W3 ⟨A7, m7, d7, rfl, own7, hm7, g⟩; subst hm7; have o7 := hide (own_zero own7); clear own7; have G := G.trans (g.mono G.size); have bb := hide (box_below bb.out g); have KB := KB.trans (g.mono KB.size); have x13 := hide (box_below x13.out g); have o6 := hide (own_below2 o6.out g (Nat.le_refl _)); clear g)
              have ltx13 := x13.out.lt
              refine wpAny_ready (rs := [8]) (by kernel_rfl) (by simp) ?_
              refine AllReady.cons rfl (fun K hK => ?_) AllReady.nil
              · go_simp
                refine hK _ _ ?_
                clear hK K
                obtain ⟨W4, hV⟩ : ∃ V, V = W3.alloc (.cells #[.int .i64 0, .slice none 0 0] 25) := ⟨_, rfl⟩
                have g : Below W3.heap.size W3 W4 := by rw [hV]; exact (Below.refl _ W3).alloc (Nat.le_refl _) _
                have x12 : Hid (Boxed2 W4 W3.heap.size 25 (.int .i64 0) (.slice none 0 0)) := hide (by rw [hV]; exact Boxed2.new W3 _ _ _)
                have lx12 : W3.heap.size < W4.heap.size := by rw [hV]; simp
                obtain ⟨B12, hB12⟩ : ∃ B, B = W3.heap.size := ⟨_, rfl⟩
                have nx12 : Hid (B12 = W3.heap.size) := hide hB12
                have geB12 : wb.heap.size ≤ B12 := by have := KB.size; omega
                rw [← hV, ← hB12]
                rw [← hB12] at x12
                clear hV hB12 lx12
                have G := G.trans (g.mono G.size)
                have bb := hide (box_below bb.out g)
                have KB := KB.trans (g.mono KB.size)
                have x13 := hide (box_below x13.out g)
                have o6 := hide (own_below2 o6.out g (Nat.le_refl _))
                have o7 := hide (own_below2 o7.out g (Nat.le_refl _))
                have hne : B12 ≠ B13 := by have := nx12.out; have := ltx13; omega
                have ltx12 : B12 < W4.heap.size := x12.out.lt
                clear nx12 g
                clear ltx13
                have e0 := x12.out.cell0
                have e1 := x12.out.cell1
                have f0 := x12.out.frozen (j := 0)
                have f1 := x12.out.frozen (j := 1)
                refine wpAny_ready (rs := [10]) (by kernel_rfl) (by simp) ?_
                refine AllReady.cons rfl (fun K hK => ?_) AllReady.nil
                go_simp
                refine hK _ _ ?_
                clear hK K e0 e1 f0 f1
                obtain ⟨V1, hV⟩ : ∃ V, V = (W4.setCell ⟨B12, 0, none⟩ (.int .i64 n)).setCell ⟨B12, 1, none⟩ (.slice A6 (n * n) d6) := ⟨_, rfl⟩
                rw [← hV]
                have y12 : Hid (Boxed2 V1 B12 25 (.int .i64 n) (.slice A6 (n * n) d6)) := hide (by rw [hV]; exact (x12.out.set0 _).set1 _)
                have g : W4.grownBy V1 (some B12) := by rw [hV]; exact grown_tr (grownBy_set1 _ _ 0 _) (grownBy_set1 _ _ 1 _)
                clear hV
                have o6 := hide (o6.out.kept g (.inr fun e => x12.out.not_row (by decide) o6.out e.symm))
                have o7 := hide (o7.out.kept g (.inr fun e => x12.out.not_row (by decide) o7.out e.symm))
                have x13 := hide (x13.out.kept g (fun e => hne (by injection e with e; exact e.symm)))
                have bb := hide (bb.out.kept g (fun e => by injection e with e; omega))
                have KB := KB.grown g KB.size (fun k e => by cases e; exact geB12)
                clear g x12
                have e0 := x13.out.cell0
                have e1 := x13.out.cell1
                have f0 := x13.out.frozen (j := 0)
                have f1 := x13.out.frozen (j := 1)
                refine wpAny_ready (rs := [11]) (by kernel_rfl) (by simp) ?_
                refine AllReady.cons rfl (fun K hK => ?_) AllReady.nil
                go_simp
                refine hK _ _ ?_
                clear hK K e0 e1 f0 f1
                obtain ⟨V2, hV⟩ : ∃ V, V = (V1.setCell ⟨B13, 0, none⟩ (.int .i64 n)).setCell ⟨B13, 1, none⟩ (.slice A7 (n * n) d7) := ⟨_, rfl⟩
                rw [← hV]
                have y13 : Hid (Boxed2 V2 B13 25 (.int .i64 n) (.slice A7 (n * n) d7)) := hide (by rw [hV]; exact (x13.out.set0 _).set1 _)
                have g : V1.grownBy V2 (some B13) := by rw [hV]; exact grown_tr (grownBy_set1 _ _ 0 _) (grownBy_set1 _ _ 1 _)
                clear hV
                have o6 := hide (o6.out.kept g (.inr fun e => x13.out.not_row (by decide) o6.out e.symm))
                have o7 := hide (o7.out.kept g (.inr fun e => x13.out.not_row (by decide) o7.out e.symm))
                have y12 := hide (y12.out.kept g (fun e => hne (by injection e)))
                have bb := hide (bb.out.kept g (fun e => by injection e with e; omega))
                have KB := KB.grown g KB.size (fun k e => by cases e; exact geB13)
                clear g x13
                refine wpAny_done (by kernel_rfl) ?_ _
                go_wp2_with fail
                go_meet
                exact ⟨B12, B13, A6, d6, A7, d7, rfl, rfl, hide ⟨y12.out, y13.out, o6.out, o7.out, bb.out, KB, geB12, geB13⟩⟩
            · go_simp
              refine hK _ _ ?_
              clear hK K
              obtain ⟨W3, hV⟩ : ∃ V, V = W2.alloc (.cells #[.int .i64 0, .slice none 0 0] 25) := ⟨_, rfl⟩
              have g : Below W2.heap.size W2 W3 := by rw [hV]; exact (Below.refl _ W2).alloc (Nat.le_refl _) _
              have x12 : Hid (Boxed2 W3 W2.heap.size 25 (.int .i64 0) (.slice none 0 0)) := hide (by rw [hV]; exact Boxed2.new W2 _ _ _)
              have lx12 : W2.heap.size < W3.heap.size := by rw [hV]; simp
              obtain ⟨B12, hB12⟩ : ∃ B, B = W2.heap.size := ⟨_, rfl⟩
              have nx12 : Hid (B12 = W2.heap.size) := hide hB12
              have geB12 : wb.heap.size ≤ B12 := by have := KB.size; omega
              rw [← hV, ← hB12]
              rw [← hB12] at x12
              clear hV hB12 lx12
              have G := G.trans (g.mono G.size)
              have bb := hide (box_below bb.out g)
              have KB := KB.trans (g.mono KB.size)
              have x13 := hide (box_below x13.out g)
              have o6 := hide (own_below2 o6.out g (Nat.le_refl _))
              have hne : B12 ≠ B13 := by have := nx12.out; have := ltx13; omega
              have ltx12 : B12 < W3.heap.size := x12.out.lt
              clear nx12 g
              clear ltx13
              refine wpAny_ready (rs := [7]) (by kernel_rfl) (by simp) ?_
              refine AllReady.cons rfl (fun K hK => ?_) AllReady.nil
              · go_simp
                go_wp2_with (go_at_call 22; refine (lawsRanked a2 n c2 w.heap.size S _ (t2.below G) G.size hn).mono ?_; rintro _ W4 ⟨A7, m7, d7, rfl, own7, hm7, g⟩; subst hm7; have o7 := hide (own_zero own7); clear own7; have G := G.trans (g.mono G.size); have bb := hide (box_below bb.out g); have KB := KB.trans (g.mono KB.size); have x12 := hide (box_below x12.out g); have x13 := hide (box_below x13.out g); have o6 := hide (own_below2 o6.out g (Nat.le_refl _)); clear g)
                have e0 := x12.out.cell0
                have e1 := x12.out.cell1
                have f0 := x12.out.frozen (j := 0)
                have f1 := x12.out.frozen (j := 1)
                refine wpAny_ready (rs := [10]) (by kernel_rfl) (by simp) ?_
                refine AllReady.cons rfl (fun K hK => ?_) AllReady.nil
                go_simp
                refine hK _ _ ?_
                clear hK K e0 e1 f0 f1
                obtain ⟨V1, hV⟩ : ∃ V, V = (W4.setCell ⟨B12, 0, none⟩ (.int .i64 n)).setCell ⟨B12, 1, none⟩ (.slice A6 (n * n) d6) := ⟨_, rfl⟩
                rw [← hV]
                have y12 : Hid (Boxed2 V1 B12 25 (.int .i64 n) (.slice A6 (n * n) d6)) := hide (by rw [hV]; exact (x12.out.set0 _).set1 _)
                have g : W4.grownBy V1 (some B12) := by rw [hV]; exact grown_tr (grownBy_set1 _ _ 0 _) (grownBy_set1 _ _ 1 _)
                clear hV
                have o6 := hide (o6.out.kept g (.inr fun e => x12.out.not_row (by decide) o6.out e.symm))
                have o7 := hide (o7.out.kept g (.inr fun e => x12.out.not_row (by decide) o7.out e.symm))
                have x13 := hide (x13.out.kept g (fun e => hne (by injection e with e; exact e.symm)))
                have bb := hide (bb.out.kept g (fun e => by injection e with e; omega))
                have KB := KB.grown g KB.size (fun k e => by cases e; exact geB12)
                clear g x12
                have e0 := x13.out.cell0
                have e1 := x13.out.cell1
                have f0 := x13.out.frozen (j := 0)
                have f1 := x13.out.frozen (j := 1)
                refine wpAny_ready (rs := [11]) (by kernel_rfl) (by simp) ?_
                refine AllReady.cons rfl (fun K hK => ?_) AllReady.nil
                go_simp
                refine hK _ _ ?_
                clear hK K e0 e1 f0 f1
                obtain ⟨V2, hV⟩ : ∃ V, V = (V1.setCell ⟨B13, 0, none⟩ (.int .i64 n)).setCell ⟨B13, 1, none⟩ (.slice A7 (n * n) d7) := ⟨_, rfl⟩
                rw [← hV]
                have y13 : Hid (Boxed2 V2 B13 25 (.int .i64 n) (.slice A7 (n * n) d7)) := hide (by rw [hV]; exact (x13.out.set0 _).set1 _)
                have g : V1.grownBy V2 (some B13) := by rw [hV]; exact grown_tr (grownBy_set1 _ _ 0 _) (grownBy_set1 _ _ 1 _)
                clear hV
                have o6 := hide (o6.out.kept g (.inr fun e => x13.out.not_row (by decide) o6.out e.symm))
                have o7 := hide (o7.out.kept g (.inr fun e => x13.out.not_row (by decide) o7.out e.symm))
                have y12 := hide (y12.out.kept g (fun e => hne (by injection e)))
                have bb := hide (bb.out.kept g (fun e => by injection e with e; omega))
                have KB := KB.grown g KB.size (fun k e => by cases e; exact geB13)
                clear g x13
                refine wpAny_done (by kernel_rfl) ?_ _
                go_wp2_with fail
                go_meet
                exact ⟨B12, B13, A6, d6, A7, d7, rfl, rfl, hide ⟨y12.out, y13.out, o6.out, o7.out, bb.out, KB, geB12, geB13⟩⟩
        · go_simp
          refine hK _ _ ?_
          clear hK K
          obtain ⟨W1, hV⟩ : ∃ V, V = W0.alloc (.cells #[.int .i64 0, .slice none 0 0] 25) := ⟨_, rfl⟩
          have g : Below W0.heap.size W0 W1 := by rw [hV]; exact (Below.refl _ W0).alloc (Nat.le_refl _) _
          have x12 : Hid (Boxed2 W1 W0.heap.size 25 (.int .i64 0) (.slice none 0 0)) := hide (by rw [hV]; exact Boxed2.new W0 _ _ _)
          have lx12 : W0.heap.size < W1.heap.size := by rw [hV]; simp
          obtain ⟨B12, hB12⟩ : ∃ B, B = W0.heap.size := ⟨_, rfl⟩
          have nx12 : Hid (B12 = W0.heap.size) := hide hB12
          have geB12 : wb.heap.size ≤ B12 := by have := KB.size; omega
          rw [← hV, ← hB12]
          rw [← hB12] at x12
          clear hV hB12 lx12
          have G := G.trans (g.mono G.size)
          have bb := hide (box_below bb.out g)
          have KB := KB.trans (g.mono KB.size)
          have ltx12 : B12 < W1.heap.size := x12.out.lt
          clear nx12 g
          refine wpAny_ready (rs := [3, 9]) (by kernel_rfl) (by simp) ?_
          refine AllReady.cons rfl (fun K hK => ?_) (AllReady.cons rfl (fun K hK => ?_) AllReady.nil)
          · go_simp
            go_wp2_with (go_at_call 22; refine (lawsRanked a1 n c1 w.heap.size F _ (t1.below G) G.size hn).mono ?_; rintro _ W2 ⟨A6, m6, d6, rfl, own6, hm6, g⟩; subst hm6; have o6 := hide (own_zero own6); clear own6; have G := G.trans (g.mono G.size); have bb := hide (box_below bb.out g); have KB := KB.trans (g.mono KB.size); have x12 := hide (box_below x12.out g); clear g)
            have ltx12 := x12.out.lt
            refine wpAny_ready (rs := [7, 9]) (by kernel_rfl) (by simp) ?_
            refine AllReady.cons rfl (fun K hK => ?_) (AllReady.cons rfl (fun K hK => ?_) AllReady.nil)
            · go_simp
              go_wp2_with (go_at_call 22; refine (lawsRanked a2 n c2 w.heap.size S _ (t2.below G) G.size hn).mono ?_; rintro _ W3 ⟨A7, m7, d7, rfl, own7, hm7, g⟩; subst hm7; have o7 := hide (own_zero own7); clear own7; have G := G.trans (g.mono G.size); have bb := hide (box_below bb.out g); have KB := KB.trans (g.mono KB.size); have x12 := hide (box_below x12.out g); have o6 := hide (own_below2 o6.out g (Nat.le_refl _)); clear g)
              have ltx12 := x12.out.lt
              refine wpAny_ready (rs := [9]) (by kernel_rfl) (by simp) ?_
              refine AllReady.cons rfl (fun K hK => ?_) AllReady.nil
              · go_simp
                refine hK _ _ ?_
                clear hK K
                obtain ⟨W4, hV⟩ : ∃ V, V = W3.alloc (.cells #[.int .i64 0, .slice none 0 0] 25) := ⟨_, rfl⟩
                have g : Below W3.heap.size W3 W4 := by rw [hV]; exact (Below.refl _ W3).alloc (Nat.le_refl _) _
                have x13 : Hid (Boxed2 W4 W3.heap.size 25 (.int .i64 0) (.slice none 0 0)) := hide (by rw [hV]; exact Boxed2.new W3 _ _ _)
                have lx13 : W3.heap.size < W4.heap.size := by rw [hV]; simp
                obtain ⟨B13, hB13⟩ : ∃ B, B = W3.heap.size := ⟨_, rfl⟩
                have nx13 : Hid (B13 = W3.heap.size) := hide hB13
                have geB13 : wb.heap.size ≤ B13 := by have := KB.size; omega
                rw [← hV, ← hB13]
                rw [← hB13] at x13
                clear hV hB13 lx13
                have G := G.trans (g.mono G.size)
                have bb := hide (box_below bb.out g)
                have KB := KB.trans (g.mono KB.size)
                have x12 := hide (box_below x12.out g)
                have o6 := hide (own_below2 o6.out g (Nat.le_refl _))
                have o7 := hide (own_below2 o7.out g (Nat.le_refl _))
                have hne : B12 ≠ B13 := by have := nx13.out; have := ltx12; omega
                have ltx13 : B13 < W4.heap.size := x13.out.lt
                clear nx13 g
                clear ltx12
                have e0 := x12.out.cell0
                have e1 := x12.out.cell1
                have f0 := x12.out.frozen (j := 0)
                have f1 := x12.out.frozen (j := 1)
                refine wpAny_ready (rs := [10]) (by kernel_rfl) (by simp) ?_
                refine AllReady.cons rfl (fun K hK => ?_) AllReady.nil
                go_simp
                refine hK _ _ ?_
                clear hK K e0 e1 f0 f1
                obtain ⟨V1, hV⟩ : ∃ V, V = (W4.setCell ⟨B12, 0, none⟩ (.int .i64 n)).setCell ⟨B12, 1, none⟩ (.slice A6 (n * n) d6) := ⟨_, rfl⟩
                rw [← hV]
                have y12 : Hid (Boxed2 V1 B12 25 (.int .i64 n) (.slice A6 (n * n) d6)) := hide (by rw [hV]; exact (x12.out.set0 _).set1 _)
                have g : W4.grownBy V1 (some B12) := by rw [hV]; exact grown_tr (grownBy_set1 _ _ 0 _) (grownBy_set1 _ _ 1 _)
                clear hV
                have o6 := hide (o6.out.kept g (.inr fun e => x12.out.not_row (by decide) o6.out e.symm))
                have o7 := hide (o7.out.kept g (.inr fun e => x12.out.not_row (by decide) o7.out e.symm))
                have x13 := hide (x13.out.kept g (fun e => hne (by injection e with e; exact e.symm)))
                have bb := hide (bb.out.kept g (fun e => by injection e with e; omega))
                have KB := KB.grown g KB.size (fun k e => by cases e; exact geB12)
                clear g x12
                have e0 := x13.out.cell0
                have e1 := x13.out.cell1
                have f0 := x13.out.frozen (j := 0)
                have f1 := x13.out.frozen (j := 1)
                refine wpAny_ready (rs := [11]) (by kernel_rfl) (by simp) ?_
                refine AllReady.cons rfl (fun K hK => ?_) AllReady.nil
                go_simp
                refine hK _ _ ?_
                clear hK K e0 e1 f0 f1
                obtain ⟨V2, hV⟩ : ∃ V, V = (V1.setCell ⟨B13, 0, none⟩ (.int .i64 n)).setCell ⟨B13, 1, none⟩ (.slice A7 (n * n) d7) := ⟨_, rfl⟩
                rw [← hV]
                have y13 : Hid (Boxed2 V2 B13 25 (.int .i64 n) (.slice A7 (n * n) d7)) := hide (by rw [hV]; exact (x13.out.set0 _).set1 _)
                have g : V1.grownBy V2 (some B13) := by rw [hV]; exact grown_tr (grownBy_set1 _ _ 0 _) (grownBy_set1 _ _ 1 _)
                clear hV
                have o6 := hide (o6.out.kept g (.inr fun e => x13.out.not_row (by decide) o6.out e.symm))
                have o7 := hide (o7.out.kept g (.inr fun e => x13.out.not_row (by decide) o7.out e.symm))
                have y12 := hide (y12.out.kept g (fun e => hne (by injection e)))
                have bb := hide (bb.out.kept g (fun e => by injection e with e; omega))
                have KB := KB.grown g KB.size (fun k e => by cases e; exact geB13)
                clear g x13
                refine wpAny_done (by kernel_rfl) ?_ _
                go_wp2_with fail
                go_meet
                exact ⟨B12, B13, A6, d6, A7, d7, rfl, rfl, hide ⟨y12.out, y13.out, o6.out, o7.out, bb.out, KB, geB12, geB13⟩⟩
            · go_simp
              refine hK _ _ ?_
              clear hK K
              obtain ⟨W3, hV⟩ : ∃ V, V = W2.alloc (.cells #[.int .i64 0, .slice none 0 0] 25) := ⟨_, rfl⟩
              have g : Below W2.heap.size W2 W3 := by rw [hV]; exact (Below.refl _ W2).alloc (Nat.le_refl _) _
              have x13 : Hid (Boxed2 W3 W2.heap.size 25 (.int .i64 0) (.slice none 0 0)) := hide (by rw [hV]; exact Boxed2.new W2 _ _ _)
              have lx13 : W2.heap.size < W3.heap.size := by rw [hV]; simp
              obtain ⟨B13, hB13⟩ : ∃ B, B = W2.heap.size := ⟨_, rfl⟩
              have nx13 : Hid (B13 = W2.heap.size) := hide hB13
              have geB13 : wb.heap.size ≤ B13 := by have := KB.size; omega
              rw [← hV, ← hB13]
              rw [← hB13] at x13
              clear hV hB13 lx13
              have G := G.trans (g.mono G.size)
              have bb := hide (box_below bb.out g)
              have KB := KB.trans (g.mono KB.size)
              have x12 := hide (box_below x12.out g)
              have o6 := hide (own_below2 o6.out g (Nat.le_refl _))
              have hne : B12 ≠ B13 := by have := nx13.out; have := ltx12; omega
              have ltx13 : B13 < W3.heap.size := x13.out.lt
              clear nx13 g
              clear ltx12
              refine wpAny_ready (rs := [7]) (by kernel_rfl) (by simp) ?_
              refine AllReady.cons rfl (fun K hK => ?_) AllReady.nil
              · go_simp
                go_wp2_with (go_at_call 22; refine (lawsRanked a2 n c2 w.heap.size S _ (t2.below G) G.size hn).mono ?_; rintro _ W4 ⟨A7, m7, d7, rfl, own7, hm7, g⟩; subst hm7; have o7 := hide (own_zero own7); clear own7; have G := G.trans (g.mono G.size); have bb := hide (box_below bb.out g); have KB := KB.trans (g.mono KB.size); have x12 := hide (box_below x12.out g); have x13 := hide (box_below x13.out g); have o6 := hide (own_below2 o6.out g (Nat.le_refl _)); clear g)
                have e0 := x12.out.cell0
                have e1 := x12.out.cell1
                have f0 := x12.out.frozen (j := 0)
                have f1 := x12.out.frozen (j := 1)
                refine wpAny_ready (rs := [10]) (by kernel_rfl) (by simp) ?_
                refine AllReady.cons rfl (fun K hK => ?_) AllReady.nil
                go_simp
                refine hK _ _ ?_
                clear hK K e0 e1 f0 f1
                obtain ⟨V1, hV⟩ : ∃ V, V = (W4.setCell ⟨B12, 0, none⟩ (.int .i64 n)).setCell ⟨B12, 1, none⟩ (.slice A6 (n * n) d6) := ⟨_, rfl⟩
                rw [← hV]
                have y12 : Hid (Boxed2 V1 B12 25 (.int .i64 n) (.slice A6 (n * n) d6)) := hide (by rw [hV]; exact (x12.out.set0 _).set1 _)
                have g : W4.grownBy V1 (some B12) := by rw [hV]; exact grown_tr (grownBy_set1 _ _ 0 _) (grownBy_set1 _ _ 1 _)
                clear hV
                have o6 := hide (o6.out.kept g (.inr fun e => x12.out.not_row (by decide) o6.out e.symm))
                have o7 := hide (o7.out.kept g (.inr fun e => x12.out.not_row (by decide) o7.out e.symm))
                have x13 := hide (x13.out.kept g (fun e => hne (by injection e with e; exact e.symm)))
                have bb := hide (bb.out.kept g (fun e => by injection e with e; omega))
                have KB := KB.grown g KB.size (fun k e => by cases e; exact geB12)
                clear g x12
                have e0 := x13.out.cell0
                have e1 := x13.out.cell1
                have f0 := x13.out.frozen (j := 0)
                have f1 := x13.out.frozen (j := 1)
                refine wpAny_ready (rs := [11]) (by kernel_rfl) (by simp) ?_
                refine AllReady.cons rfl (fun K hK => ?_) AllReady.nil
                go_simp
                refine hK _ _ ?_
                clear hK K e0 e1 f0 f1
                obtain ⟨V2, hV⟩ : ∃ V, V = (V1.setCell ⟨B13, 0, none⟩ (.int .i64 n)).setCell ⟨B13, 1, none⟩ (.slice A7 (n * n) d7) := ⟨_, rfl⟩
                rw [← hV]
                have y13 : Hid (Boxed2 V2 B13 25 (.int .i64 n) (.slice A7 (n * n) d7)) := hide (by rw [hV]; exact (x13.out.set0 _).set1 _)
                have g : V1.grownBy V2 (some B13) := by rw [hV]; exact grown_tr (grownBy_set1 _ _ 0 _) (grownBy_set1 _ _ 1 _)
                clear hV
                have o6 := hide (o6.out.kept g (.inr fun e => x13.out.not_row (by decide) o6.out e.symm))
                have o7 := hide (o7.out.kept g (.inr fun e => x13.out.not_row (by decide) o7.out e.symm))
                have y12 := hide (y12.out.kept g (fun e => hne (by injection e)))
                have bb := hide (bb.out.kept g (fun e => by injection e with e; omega))
                have KB := KB.grown g KB.size (fun k e => by cases e; exact geB13)
                clear g x13
                refine wpAny_done (by kernel_rfl) ?_ _
                go_wp2_with fail
                go_meet
                exact ⟨B12, B13, A6, d6, A7, d7, rfl, rfl, hide ⟨y12.out, y13.out, o6.out, o7.out, bb.out, KB, geB12, geB13⟩⟩
          · go_simp
            refine hK _ _ ?_
            clear hK K
            obtain ⟨W2, hV⟩ : ∃ V, V = W1.alloc (.cells #[.int .i64 0, .slice none 0 0] 25) := ⟨_, rfl⟩
            have g : Below W1.heap.size W1 W2 := by rw [hV]; exact (Below.refl _ W1).alloc (Nat.le_refl _) _
            have x13 : Hid (Boxed2 W2 W1.heap.size 25 (.int .i64 0) (.slice none 0 0)) := hide (by rw [hV]; exact Boxed2.new W1 _ _ _)
            have lx13 : W1.heap.size < W2.heap.size := by rw [hV]; simp
            obtain ⟨B13, hB13⟩ : ∃ B, B = W1.heap.size := ⟨_, rfl⟩
            have nx13 : Hid (B13 = W1.heap.size) := hide hB13
            have geB13 : wb.heap.size ≤ B13 := by have := KB.size; omega
            rw [← hV, ← hB13]
            rw [← hB13] at x13
            clear hV hB13 lx13
            have G := G.trans (g.mono G.size)
            have bb := hide (box_below bb.out g)
            have KB := KB.trans (g.mono KB.size)
            have x12 := hide (box_below x12.out g)
            have hne : B12 ≠ B13 := by have := nx13.out; have := ltx12; omega
            have ltx13 : B13 < W2.heap.size := x13.out.lt
            clear nx13 g
            clear ltx12
            refine wpAny_ready (rs := [3]) (by kernel_rfl) (by simp) ?_
            refine AllReady.cons rfl (fun K hK => ?_) AllReady.nil
            · go_simp
              go_wp2_with (go_at_call 22; refine (lawsRanked a1 n c1 w.heap.size F _ (t1.below G) G.size hn).mono ?_; rintro _ W3 ⟨A6, m6, d6, rfl, own6, hm6, g⟩; subst hm6; have o6 := hide (own_zero own6); clear own6; have G := G.trans (g.mono G.size); have bb := hide (box_below bb.out g); have KB := KB.trans (g.mono KB.size); have x12 := hide (box_below x12.out g); have x13 := hide (box_below x13.out g); clear g)
              refine wpAny_ready (rs := [7]) (by kernel_rfl) (by simp) ?_
              refine AllReady.cons rfl (fun K hK => ?_) AllReady.nil
              · go_simp
                go_wp2_with (go_at_call 22; refine (lawsRanked a2 n c2 w.heap.size S _ (t2.below G) G.size hn).mono ?_; rintro _ W4 ⟨A7, m7, d7, rfl, own7, hm7, g⟩; subst hm7; have o7 := hide (own_zero own7); clear own7; have G := G.trans (g.mono G.size); have bb := hide (box_below bb.out g); have KB := KB.trans (g.mono KB.size); have x12 := hide (box_below x12.out g); have x13 := hide (box_below x13.out g); have o6 := hide (own_below2 o6.out g (Nat.le_refl _)); clear g)
                have e0 := x12.out.cell0
                have e1 := x12.out.cell1
                have f0 := x12.out.frozen (j := 0)
                have f1 := x12.out.frozen (j := 1)
                refine wpAny_ready (rs := [10]) (by kernel_rfl) (by simp) ?_
                refine AllReady.cons rfl (fun K hK => ?_) AllReady.nil
                go_simp
                refine hK _ _ ?_
                clear hK K e0 e1 f0 f1
                obtain ⟨V1, hV⟩ : ∃ V, V = (W4.setCell ⟨B12, 0, none⟩ (.int .i64 n)).setCell ⟨B12, 1, none⟩ (.slice A6 (n * n) d6) := ⟨_, rfl⟩
                rw [← hV]
                have y12 : Hid (Boxed2 V1 B12 25 (.int .i64 n) (.slice A6 (n * n) d6)) := hide (by rw [hV]; exact (x12.out.set0 _).set1 _)
                have g : W4.grownBy V1 (some B12) := by rw [hV]; exact grown_tr (grownBy_set1 _ _ 0 _) (grownBy_set1 _ _ 1 _)
                clear hV
                have o6 := hide (o6.out.kept g (.inr fun e => x12.out.not_row (by decide) o6.out e.symm))
                have o7 := hide (o7.out.kept g (.inr fun e => x12.out.not_row (by decide) o7.out e.symm))
                have x13 := hide (x13.out.kept g (fun e => hne (by injection e with e; exact e.symm)))
                have bb := hide (bb.out.kept g (fun e => by injection e with e; omega))
                have KB := KB.grown g KB.size (fun k e => by cases e; exact geB12)
                clear g x12
                have e0 := x13.out.cell0
                have e1 := x13.out.cell1
                have f0 := x13.out.frozen (j := 0)
                have f1 := x13.out.frozen (j := 1)
                refine wpAny_ready (rs := [11]) (by kernel_rfl) (by simp) ?_
                refine AllReady.cons rfl (fun K hK => ?_) AllReady.nil
                go_simp
                refine hK _ _ ?_
                clear hK K e0 e1 f0 f1
                obtain ⟨V2, hV⟩ : ∃ V, V = (V1.setCell ⟨B13, 0, none⟩ (.int .i64 n)).setCell ⟨B13, 1, none⟩ (.slice A7 (n * n) d7) := ⟨_, rfl⟩
                rw [← hV]
                have y13 : Hid (Boxed2 V2 B13 25 (.int .i64 n) (.slice A7 (n * n) d7)) := hide (by rw [hV]; exact (x13.out.set0 _).set1 _)
                have g : V1.grownBy V2 (some B13) := by rw [hV]; exact grown_tr (grownBy_set1 _ _ 0 _) (grownBy_set1 _ _ 1 _)
                clear hV
                have o6 := hide (o6.out.kept g (.inr fun e => x13.out.not_row (by decide) o6.out e.symm))
                have o7 := hide (o7.out.kept g (.inr fun e => x13.out.not_row (by decide) o7.out e.symm))
                have y12 := hide (y12.out.kept g (fun e => hne (by injection e)))
                have bb := hide (bb.out.kept g (fun e => by injection e with e; omega))
                have KB := KB.grown g KB.size (fun k e => by cases e; exact geB13)
                clear g x13
                refine wpAny_done (by kernel_rfl) ?_ _
                go_wp2_with fail
                go_meet
                exact ⟨B12, B13, A6, d6, A7, d7, rfl, rfl, hide ⟨y12.out, y13.out, o6.out, o7.out, bb.out, KB, geB12, geB13⟩⟩
        · go_simp
          refine hK _ _ ?_
          clear hK K
          obtain ⟨W1, hV⟩ : ∃ V, V = W0.alloc (.cells #[.int .i64 0, .slice none 0 0] 25) := ⟨_, rfl⟩
          have g : Below W0.heap.size W0 W1 := by rw [hV]; exact (Below.refl _ W0).alloc (Nat.le_refl _) _
          have x13 : Hid (Boxed2 W1 W0.heap.size 25 (.int .i64 0) (.slice none 0 0)) := hide (by rw [hV]; exact Boxed2.new W0 _ _ _)
          have lx13 : W0.heap.size < W1.heap.size := by rw [hV]; simp
          obtain ⟨B13, hB13⟩ : ∃ B, B = W0.heap.size := ⟨_, rfl⟩
          have nx13 : Hid (B13 = W0.heap.size) := hide hB13
          have geB13 : wb.heap.size ≤ B13 := by have := KB.size; omega
          rw [← hV, ← hB13]
          rw [← hB13] at x13
          clear hV hB13 lx13
          have G := G.trans (g.mono G.size)
          have bb := hide (box_below bb.out g)
          have KB := KB.trans (g.mono KB.size)
          have ltx13 : B13 < W1.heap.size := x13.out.lt
          clear nx13 g
          refine wpAny_ready (rs := [3, 8]) (by kernel_rfl) (by simp) ?_
          refine AllReady.cons rfl (fun K hK => ?_) (AllReady.cons rfl (fun K hK => ?_) AllReady.nil)
          · go_simp
            go_wp2_with (go_at_call 22; refine (lawsRanked a1 n c1 w.heap.size F _ (t1.below G) G.size hn).mono ?_; rintro _ W2 ⟨A6, m6, d6, rfl, own6, hm6, g⟩; subst hm6; have o6 := hide (own_zero own6); clear own6; have G := G.trans (g.mono G.size); have bb := hide (box_below bb.out g); have KB := KB.trans (g.mono KB.size); have x13 := hide (box_below x13.out g); clear g)
            have ltx13 := x13.out.lt
            refine wpAny_ready (rs := [7, 8]) (by kernel_rfl) (by simp) ?_
            refine AllReady.cons rfl (fun K hK => ?_) (AllReady.cons rfl (fun K hK => ?_) AllReady.nil)
            · go_simp
              go_wp2_with (go_at_call 22; refine (lawsRanked a2 n c2 w.heap.size S _ (t2.below G) G.size hn).mono ?_; rintro _ W3 ⟨A7, m7, d7, rfl, own7, hm7, g⟩; subst hm7; have o7 := hide (own_zero own7); clear own7; have G := G.trans (g.mono G.size); have bb := hide (box_below bb.out g); have KB := KB.trans (g.mono KB.size); have x13 := hide (box_below x13.out g); have o6 := hide (own_below2 o6.out g (Nat.le_refl _)); clear g)
              have ltx13 := x13.out.lt
              refine wpAny_ready (rs := [8]) (by kernel_rfl) (by simp) ?_
              refine AllReady.cons rfl (fun K hK => ?_) AllReady.nil
              · go_simp
                refine hK _ _ ?_
                clear hK K
                obtain ⟨W4, hV⟩ : ∃ V, V = W3.alloc (.cells #[.int .i64 0, .slice none 0 0] 25) := ⟨_, rfl⟩
                have g : Below W3.heap.size W3 W4 := by rw [hV]; exact (Below.refl _ W3).alloc (Nat.le_refl _) _
                have x12 : Hid (Boxed2 W4 W3.heap.size 25 (.int .i64 0) (.slice none 0 0)) := hide (by rw [hV]; exact Boxed2.new W3 _ _ _)
                have lx12 : W3.heap.size < W4.heap.size := by rw [hV]; simp
                obtain ⟨B12, hB12⟩ : ∃ B, B = W3.heap.size := ⟨_, rfl⟩
                have nx12 : Hid (B12 = W3.heap.size) := hide hB12
                have geB12 : wb.heap.size ≤ B12 := by have := KB.size; omega
                rw [← hV, ← hB12]
                rw [← hB12] at x12
                clear hV hB12 lx12
                have G := G.trans (g.mono G.size)
                have bb := hide (box_below bb.out g)
                have KB := KB.trans (g.mono KB.size)
                have x13 := hide (box_below x13.out g)
                have o6 := hide (own_below2 o6.out g (Nat.le_refl _))
                have o7 := hide (own_below2 o7.out g (Nat.le_refl _))
                have hne : B12 ≠ B13 := by have := nx12.out; have := ltx13; omega
                have ltx12 : B12 < W4.heap.size := x12.out.lt
                clear nx12 g
                clear ltx13
                have e0 := x12.out.cell0
                have e1 := x12.out.cell1
                have f0 := x12.out.frozen (j := 0)
                have f1 := x12.out.frozen (j := 1)
                refine wpAny_ready (rs := [10]) (by kernel_rfl) (by simp) ?_
                refine AllReady.cons rfl (fun K hK => ?_) AllReady.nil
                go_simp
                refine hK _ _ ?_
                clear hK K e0 e1 f0 f1
                obtain ⟨V1, hV⟩ : ∃ V, V = (W4.setCell ⟨B12, 0, none⟩ (.int .i64 n)).setCell ⟨B12, 1, none⟩ (.slice A6 (n * n) d6) := ⟨_, rfl⟩
                rw [← hV]
                have y12 : Hid (Boxed2 V1 B12 25 (.int .i64 n) (.slice A6 (n * n) d6)) := hide (by rw [hV]; exact (x12.out.set0 _).set1 _)
                have g : W4.grownBy V1 (some B12) := by rw [hV]; exact grown_tr (grownBy_set1 _ _ 0 _) (grownBy_set1 _ _ 1 _)
                clear hV
                have o6 := hide (o6.out.kept g (.inr fun e => x12.out.not_row (by decide) o6.out e.symm))
                have o7 := hide (o7.out.kept g (.inr fun e => x12.out.not_row (by decide) o7.out e.symm))
                have x13 := hide (x13.out.kept g (fun e => hne (by injection e with e; exact e.symm)))
                have bb := hide (bb.out.kept g (fun e => by injection e with e; omega))
                have KB := KB.grown g KB.size (fun k e => by cases e; exact geB12)
                clear g x12
                have e0 := x13.out.cell0
                have e1 := x13.out.cell1
                have f0 := x13.out.frozen (j := 0)
                have f1 := x13.out.frozen (j := 1)
                refine wpAny_ready (rs := [11]) (by kernel_rfl) (by simp) ?_
                refine AllReady.cons rfl (fun K hK => ?_) AllReady.nil
                go_simp
                refine hK _ _ ?_
                clear hK K e0 e1 f0 f1
                obtain ⟨V2, hV⟩ : ∃ V, V = (V1.setCell ⟨B13, 0, none⟩ (.int .i64 n)).setCell ⟨B13, 1, none⟩ (.slice A7 (n * n) d7) := ⟨_, rfl⟩
                rw [← hV]
                have y13 : Hid (Boxed2 V2 B13 25 (.int .i64 n) (.slice A7 (n * n) d7)) := hide (by rw [hV]; exact (x13.out.set0 _).set1 _)
                have g : V1.grownBy V2 (some B13) := by rw [hV]; exact grown_tr (grownBy_set1 _ _ 0 _) (grownBy_set1 _ _ 1 _)
                clear hV
                have o6 := hide (o6.out.kept g (.inr fun e => x13.out.not_row (by decide) o6.out e.symm))
                have o7 := hide (o7.out.kept g (.inr fun e => x13.out.not_row (by decide) o7.out e.symm))
                have y12 := hide (y12.out.kept g (fun e => hne (by injection e)))
                have bb := hide (bb.out.kept g (fun e => by injection e with e; omega))
                have KB := KB.grown g KB.size (fun k e => by cases e; exact geB13)
                clear g x13
                refine wpAny_done (by kernel_rfl) ?_ _
                go_wp2_with fail
                go_meet
                exact ⟨B12, B13, A6, d6, A7, d7, rfl, rfl, hide ⟨y12.out, y13.out, o6.out, o7.out, bb.out, KB, geB12, geB13⟩⟩
            · go_simp
              refine hK _ _ ?_
              clear hK K
              obtain ⟨W3, hV⟩ : ∃ V, V = W2.alloc (.cells #[.int .i64 0, .slice none 0 0] 25) := ⟨_, rfl⟩
              have g : Below W2.heap.size W2 W3 := by rw [hV]; exact (Below.refl _ W2).alloc (Nat.le_refl _) _
              have x12 : Hid (Boxed2 W3 W2.heap.size 25 (.int .i64 0) (.slice none 0 0)) := hide (by rw [hV]; exact Boxed2.new W2 _ _ _)
              have lx12 : W2.heap.size < W3.heap.size := by rw [hV]; simp
              obtain ⟨B12, hB12⟩ : ∃ B, B = W2.heap.size := ⟨_, rfl⟩
              have nx12 : Hid (B12 = W2.heap.size) := hide hB12
              have geB12 : wb.heap.size ≤ B12 := by have := KB.size; omega
              rw [← hV, ← hB12]
              rw [← hB12] at x12
              clear hV hB12 lx12
              have G := G.trans (g.mono G.size)
              have bb := hide (box_below bb.out g)
              have KB := KB.trans (g.mono KB.size)
              have x13 := hide (box_below x13.out g)
              have o6 := hide (own_below2 o6.out g (Nat.le_refl _))
              have hne : B12 ≠ B13 := by have := nx12.out; have := ltx13; omega
              have ltx12 : B12 < W3.heap.size := x12.out.lt
              clear nx12 g
              clear ltx13
              refine wpAny_ready (rs := [7]) (by kernel_rfl) (by simp) ?_
              refine AllReady.cons rfl (fun K hK => ?_) AllReady.nil
              · go_simp
                go_wp2_with (go_at_call 22; refine (lawsRanked a2 n c2 w.heap.size S _ (t2.below G) G.size hn).mono ?_; rintro _ W4 ⟨A7, m7, d7, rfl, own7, hm7, g⟩; subst hm7; have o7 := hide (own_zero own7); clear own7; have G := G.trans (g.mono G.size); have bb := hide (box_below bb.out g); have KB := KB.trans (g.mono KB.size); have x12 := hide (box_below x12.out g); have x13 := hide (box_below x13.out g); have o6 := hide (own_below2 o6.out g (Nat.le_refl _)); clear g)
                have e0 := x12.out.cell0
                have e1 := x12.out.cell1
                have f0 := x12.out.frozen (j := 0)
                have f1 := x12.out.frozen (j := 1)
                refine wpAny_ready (rs := [10]) (by kernel_rfl) (by simp) ?_
                refine AllReady.cons rfl (fun K hK => ?_) AllReady.nil
                go_simp
                refine hK _ _ ?_
                clear hK K e0 e1 f0 f1
                obtain ⟨V1, hV⟩ : ∃ V, V = (W4.setCell ⟨B12, 0, none⟩ (.int .i64 n)).setCell ⟨B12, 1, none⟩ (.slice A6 (n * n) d6) := ⟨_, rfl⟩
                rw [← hV]
                have y12 : Hid (Boxed2 V1 B12 25 (.int .i64 n) (.slice A6 (n * n) d6)) := hide (by rw [hV]; exact (x12.out.set0 _).set1 _)
                have g : W4.grownBy V1 (some B12) := by rw [hV]; exact grown_tr (grownBy_set1 _ _ 0 _) (grownBy_set1 _ _ 1 _)
                clear hV
                have o6 := hide (o6.out.kept g (.inr fun e => x12.out.not_row (by decide) o6.out e.symm))
                have o7 := hide (o7.out.kept g (.inr fun e => x12.out.not_row (by decide) o7.out e.symm))
                have x13 := hide (x13.out.kept g (fun e => hne (by injection e with e; exact e.symm)))
                have bb := hide (bb.out.kept g (fun e => by injection e with e; omega))
                have KB := KB.grown g KB.size (fun k e => by cases e; exact geB12)
                clear g x12
                have e0 := x13.out.cell0
                have e1 := x13.out.cell1
                have f0 := x13.out.frozen (j := 0)
                have f1 := x13.out.frozen (j := 1)
                refine wpAny_ready (rs := [11]) (by kernel_rfl) (by simp) ?_
                refine AllReady.cons rfl (fun K hK => ?_) AllReady.nil
                go_simp
                refine hK _ _ ?_
                clear hK K e0 e1 f0 f1
                obtain ⟨V2, hV⟩ : ∃ V, V = (V1.setCell ⟨B13, 0, none⟩ (.int .i64 n)).setCell ⟨B13, 1, none⟩ (.slice A7 (n * n) d7) := ⟨_, rfl⟩
                rw [← hV]
                have y13 : Hid (Boxed2 V2 B13 25 (.int .i64 n) (.slice A7 (n * n) d7)) := hide (by rw [hV]; exact (x13.out.set0 _).set1 _)
                have g : V1.grownBy V2 (some B13) := by rw [hV]; exact grown_tr (grownBy_set1 _ _ 0 _) (grownBy_set1 _ _ 1 _)
                clear hV
                have o6 := hide (o6.out.kept g (.inr fun e => x13.out.not_row (by decide) o6.out e.symm))
                have o7 := hide (o7.out.kept g (.inr fun e => x13.out.not_row (by decide) o7.out e.symm))
                have y12 := hide (y12.out.kept g (fun e => hne (by injection e)))
                have bb := hide (bb.out.kept g (fun e => by injection e with e; omega))
                have KB := KB.grown g KB.size (fun k e => by cases e; exact geB13)
                clear g x13
                refine wpAny_done (by kernel_rfl) ?_ _
                go_wp2_with fail
                go_meet
                exact ⟨B12, B13, A6, d6, A7, d7, rfl, rfl, hide ⟨y12.out, y13.out, o6.out, o7.out, bb.out, KB, geB12, geB13⟩⟩
          · go_simp
            refine hK _ _ ?_
            clear hK K
            obtain ⟨W2, hV⟩ : ∃ V, V = W1.alloc (.cells #[.int .i64 0, .slice none 0 0] 25) := ⟨_, rfl⟩
            have g : Below W1.heap.size W1 W2 := by rw [hV]; exact (Below.refl _ W1).alloc (Nat.le_refl _) _
            have x12 : Hid (Boxed2 W2 W1.heap.size 25 (.int .i64 0) (.slice none 0 0)) := hide (by rw [hV]; exact Boxed2.new W1 _ _ _)
            have lx12 : W1.heap.size < W2.heap.size := by rw [hV]; simp
            obtain ⟨B12, hB12⟩ : ∃ B, B = W1.heap.size := ⟨_, rfl⟩
            have nx12 : Hid (B12 = W1.heap.size) := hide hB12
            have geB12 : wb.heap.size ≤ B12 := by have := KB.size; omega
            rw [← hV, ← hB12]
            rw [← hB12] at x12
            clear hV hB12 lx12
            have G := G.trans (g.mono G.size)
            have bb := hide (box_below bb.out g)
            have KB := KB.trans (g.mono KB.size)
            have x13 := hide (box_below x13.out g)
            have hne : B12 ≠ B13 := by have := nx12.out; have := ltx13; omega
            have ltx12 : B12 < W2.heap.size := x12.out.lt
            clear nx12 g
            clear ltx13
            refine wpAny_ready (rs := [3]) (by kernel_rfl) (by simp) ?_
            refine AllReady.cons rfl (fun K hK => ?_) AllReady.nil
            · go_simp
              go_wp2_with (go_at_call 22; refine (lawsRanked a1 n c1 w.heap.size F _ (t1.below G) G.size hn).mono ?_; rintro _ W3 ⟨A6, m6, d6, rfl, own6, hm6, g⟩; subst hm6; have o6 := hide (own_zero own6); clear own6; have G := G.trans (g.mono G.size); have bb := hide (box_below bb.out g); have KB := KB.trans (g.mono KB.size); have x12 := hide (box_below x12.out g); have x13 := hide (box_below x13.out g); clear g)
              refine wpAny_ready (rs := [7]) (by kernel_rfl) (by simp) ?_
              refine AllReady.cons rfl (fun K hK => ?_) AllReady.nil
              · go_simp
                go_wp2_with (go_at_call 22; refine (lawsRanked a2 n c2 w.heap.size S _ (t2.below G) G.size hn).mono ?_; rintro _ W4 ⟨A7, m7, d7, rfl, own7, hm7, g⟩; subst hm7; have o7 := hide (own_zero own7); clear own7; have G := G.trans (g.mono G.size); have bb := hide (box_below bb.out g); have KB := KB.trans (g.mono KB.size); have x12 := hide (box_below x12.out g); have x13 := hide (box_below x13.out g); have o6 := hide (own_below2 o6.out g (Nat.le_refl _)); clear g)
                have e0 := x12.out.cell0
                have e1 := x12.out.cell1
                have f0 := x12.out.frozen (j := 0)
                have f1 := x12.out.frozen (j := 1)
                refine wpAny_ready (rs := [10]) (by kernel_rfl) (by simp) ?_
                refine AllReady.cons rfl (fun K hK => ?_) AllReady.nil
                go_simp
                refine hK _ _ ?_
                clear hK K e0 e1 f0 f1
                obtain ⟨V1, hV⟩ : ∃ V, V = (W4.setCell ⟨B12, 0, none⟩ (.int .i64 n)).setCell ⟨B12, 1, none⟩ (.slice A6 (n * n) d6) := ⟨_, rfl⟩
                rw [← hV]
                have y12 : Hid (Boxed2 V1 B12 25 (.int .i64 n) (.slice A6 (n * n) d6)) := hide (by rw [hV]; exact (x12.out.set0 _).set1 _)
                have g : W4.grownBy V1 (some B12) := by rw [hV]; exact grown_tr (grownBy_set1 _ _ 0 _) (grownBy_set1 _ _ 1 _)
                clear hV
                have o6 := hide (o6.out.kept g (.inr fun e => x12.out.not_row (by decide) o6.out e.symm))
                have o7 := hide (o7.out.kept g (.inr fun e => x12.out.not_row (by decide) o7.out e.symm))
                have x13 := hide (x13.out.kept g (fun e => hne (by injection e with e; exact e.symm)))
                have bb := hide (bb.out.kept g (fun e => by injection e with e; omega))
                have KB := KB.grown g KB.size (fun k e => by cases e; exact geB12)
                clear g x12
                have e0 := x13.out.cell0
                have e1 := x13.out.cell1
                have f0 := x13.out.frozen (j := 0)
                have f1 := x13.out.frozen (j := 1)
                refine wpAny_ready (rs := [11]) (by kernel_rfl) (by simp) ?_
                refine AllReady.cons rfl (fun K hK => ?_) AllReady.nil
                go_simp
                refine hK _ _ ?_
                clear hK K e0 e1 f0 f1
                obtain ⟨V2, hV⟩ : ∃ V, V = (V1.setCell ⟨B13, 0, none⟩ (.int .i64 n)).setCell ⟨B13, 1, none⟩ (.slice A7 (n * n) d7) := ⟨_, rfl⟩
                rw [← hV]
                have y13 : Hid (Boxed2 V2 B13 25 (.int .i64 n) (.slice A7 (n * n) d7)) := hide (by rw [hV]; exact (x13.out.set0 _).set1 _)
                have g : V1.grownBy V2 (some B13) := by rw [hV]; exact grown_tr (grownBy_set1 _ _ 0 _) (grownBy_set1 _ _ 1 _)
                clear hV
                have o6 := hide (o6.out.kept g (.inr fun e => x13.out.not_row (by decide) o6.out e.symm))
                have o7 := hide (o7.out.kept g (.inr fun e => x13.out.not_row (by decide) o7.out e.symm))
                have y12 := hide (y12.out.kept g (fun e => hne (by injection e)))
                have bb := hide (bb.out.kept g (fun e => by injection e with e; omega))
                have KB := KB.grown g KB.size (fun k e => by cases e; exact geB13)
                clear g x13
                refine wpAny_done (by kernel_rfl) ?_ _
                go_wp2_with fail
                go_meet
                exact ⟨B12, B13, A6, d6, A7, d7, rfl, rfl, hide ⟨y12.out, y13.out, o6.out, o7.out, bb.out, KB, geB12, geB13⟩⟩
      case rest =>
        obtain ⟨B12, B13, A6, d6, A7, d7, rfl, rfl, HX⟩ := hcut
        obtain ⟨y12, y13, o6, o7, bbx, KBx, ge12, ge13⟩ := HX.out
        obtain ⟨m, hm⟩ : ∃ m, n * n = m := ⟨_, rfl⟩
        rw [hm] at y12 y13 o6 o7 hnn
        have hlf : (rkPre F n).length = m := by have := rkPre_length F (i := n) (by rw [HF.out]; exact Nat.le_refl _); rw [HF.out] at this; exact this.trans hm
        have hls : (rkPre S n).length = m := by have := rkPre_length S (i := n) (by rw [HSS.out]; exact Nat.le_refl _); rw [HSS.out] at this; exact this.trans hm
        have HLF := hide hlf
        have HLS := hide hls
        clear hlf hls
        have G : Below w.heap.size w wc := G.trans (KBx.mono G.size)
        have G5x : Below w5.heap.size w5 wc := GB.trans (KBx.mono (Nat.le_of_lt ltb))
        obtain ⟨B0, hB0⟩ : ∃ B0, B0 = w5.heap.size := ⟨_, rfl⟩
        rw [← hB0] at bbx ⊢
        have HB0 := hide hB0
        have hge0 : w.heap.size ≤ B0 := by have := G5.size; omega
        have n12 : B12 ≠ B0 := by omega
        have n13 : B13 ≠ B0 := by omega
        have I0 : Hid (TkInv wc B0 n ((bothL (rkPre F n) (rkPre S n)).take 0) wc) := hide ⟨.slice none 0 0, bbx, World.ownsRow_nil _ _ _ _, ⟨rfl, rfl, rfl, Nat.le_refl _, fun _ _ _ => rfl⟩⟩
        have H6 := hide o6
        have H7 := hide o7
        have H12 := hide y12
        have H13 := hide y13
        have HBB := hide bbx
        have e121 := y12.cell1
        clear HX bb KBx o6 o7 y12 y13 bbx hB0 hm ge12 ge13 GB ltb G5
        obtain ⟨i0, hi, hz0, hz1, hz2⟩ := info_parts infoIntR
        go_wp2_with fail
        go_loopw [62] (fun vi wr => ∃ i : Nat, vi = .int .i64 i ∧ i ≤ m ∧ Hid (TkInv wc B0 n ((bothL (rkPre F n) (rkPre S n)).take i) wr)) (fun vi _ => m - (intOf vi).toNat)
        case atStart => exact ⟨0, rfl, Nat.zero_le _, I0⟩
        case round =>
          clear I0
          obtain ⟨i, rfl, hi2, HI⟩ := hrel
          obtain ⟨v, bx, ho, hgr⟩ := HI.out
          by_cases hlt : i < m
          · have hltz : (i : Int) < (m : Int) := by omega
            have o6r := H6.out.kept hgr (.inr fun e => HBB.out.not_row (by decide) H6.out e.symm)
            have o7r := H7.out.kept hgr (.inr fun e => HBB.out.not_row (by decide) H7.out e.symm)
            obtain ⟨ba, offa, x, hAa, hba, hxa, hca⟩ := (Rd.of_own o6r).intx hlt
            obtain ⟨bc, offc, t, hAc, hbc, hxc, hcc⟩ := (Rd.of_own o7r).intx hlt
            have e131 := (H13.out.kept hgr (fun e => n13 (by injection e))).cell1
            subst hAa hAc
            obtain ⟨pre, hpre⟩ : ∃ pre, pre = (bothL (rkPre F n) (rkPre S n)).take i := ⟨_, rfl⟩
            have hpl : pre.length ≤ i := by rw [hpre, List.length_take]; omega
            rw [← hpre] at ho
            have HNX : Hid ((bothL (rkPre F n) (rkPre S n)).take (i + 1) = pre ++ [pickS x t]) := hide (by rw [hpre]; exact bothL_snoc (by rw [HLF.out, HLS.out]) hxa.out hxc.out)
            obtain ⟨Av, cv, rfl⟩ := own_slice ho
            have cx1 := bx.cell1
            have hblt := bx.lt
            have hsz := hgr.size
            have hne1 : B0 ≠ wr.heap.size := by omega
            obtain ⟨r, hr⟩ : ∃ r, r = pickS x t := ⟨_, rfl⟩
            rw [← hr] at HNX
            have step : ∀ (v' : Value) (w2 : World), w2.ownsRow wc.heap.size 3 1 v' (pre.length + 1) (ints pre ++ [.int .i64 r]) → (wr.alloc (.cells #[.int .i64 r] 3)).grownBy w2 (Value.slice Av pre.length cv).ownBlock → Boxed2 w2 B0 25 (.int .i64 n) (.slice Av pre.length cv) ∧ Hid (TkInv wc B0 n ((bothL (rkPre F n) (rkPre S n)).take (i + 1)) (w2.setCell ⟨B0, 1, none⟩ v')) := fun v' w2 h1 h2 => by
              have hnr := bx.not_row (by decide) ho
              have b2 := (bx.kept (World.grownBy_alloc wr _ none) (by simp)).kept h2 hnr
              refine ⟨b2, hide ⟨v', b2.set1 v', ?_, ?_⟩⟩
              · rw [HNX.out, List.length_append, List.length_singleton, ints, List.map_append]
                exact h1.kept (grownBy_set1 w2 _ 1 v') (.inr (fun e => b2.not_row (by decide) h1 e.symm))
              · exact grown_tr (grown_mix (grown_mix hgr (World.grownBy_alloc wr _ none) (by simp)) h2 (fun j e => own_block_ge ho e)) (grownBy_set1 w2 B0 1 v')
            have STEP := hide step
            have HGR := hide hgr
            clear step hpre hgr o6r o7r hxa hxc
            by_cases h1 : x = 0
            · obtain rfl : r = t := by rw [hr, pickS, if_pos h1]
              subst h1
              clear hr
              go_wp2_with (at_builtin; go_must (refine wpList_append_own _ rfl _ _ 23 rfl wc.heap.size 3 i0 (.int .i64 0) 1 8 Try.underlying23 hi hz0 hz1 hz2 rfl (by decide) _ _ _ rfl (ho.alloc _) ⟨wr.heap.size, 0, none⟩ 1 1 [.int .i64 r] rfl rfl (cell_one_at _ _ (by simp) _ _) (by simp [Value.oneCell']) (by unfold maxLen; omega) (by omega) (by simp; omega) ?_); intro v' w2 hown' hgrow _; obtain ⟨g', cap', rfl⟩ := ownsRow_succ hown'; obtain ⟨b2, HN⟩ := STEP.out _ w2 hown' hgrow; have d1 := b2.cell1; have d2 := b2.frozen (j := 1))
              go_roundw
              case rel => exact ⟨i + 1, by go_num, by omega, HN⟩
              case measure => first | (simp [intOf]; omega) | simp [intOf]
            · obtain rfl : r = x := by rw [hr, pickS, if_neg h1]
              have hxb : (r == 0) = false := by simp [h1]
              clear hr
              go_wp2_with (at_builtin; go_must (refine wpList_append_own _ rfl _ _ 23 rfl wc.heap.size 3 i0 (.int .i64 0) 1 8 Try.underlying23 hi hz0 hz1 hz2 rfl (by decide) _ _ _ rfl (ho.alloc _) ⟨wr.heap.size, 0, none⟩ 1 1 [.int .i64 r] rfl rfl (cell_one_at _ _ (by simp) _ _) (by simp [Value.oneCell']) (by unfold maxLen; omega) (by omega) (by simp; omega) ?_); intro v' w2 hown' hgrow _; obtain ⟨g', cap', rfl⟩ := ownsRow_succ hown'; obtain ⟨b2, HN⟩ := STEP.out _ w2 hown' hgrow; have d1 := b2.cell1; have d2 := b2.frozen (j := 1))
              go_roundw
              case rel => exact ⟨i + 1, by go_num, by omega, HN⟩
              case measure => first | (simp [intOf]; omega) | simp [intOf]
          · obtain rfl : i = m := by omega
            have hltz : ¬ (i : Int) < (i : Int) := by omega
            rw [List.take_of_length_le (by rw [bothL_length (by rw [HLF.out, HLS.out]), HLF.out]; exact Nat.le_refl _)] at ho
            have hbl : (bothL (rkPre F n) (rkPre S n)).length = i := by rw [bothL_length (by rw [HLF.out, HLS.out]), HLF.out]
            rw [hbl] at ho
            obtain ⟨Av, cv, rfl⟩ := own_slice ho
            have cx0 := bx.cell0
            have cx1 := bx.cell1
            have GR : Below w5.heap.size w5 wr := G5x.grown hgr G5x.size (fun k e => by cases e; exact Nat.le_of_eq HB0.out.symm)
            have GW : Below w.heap.size w wr := G.grown hgr G.size (fun k e => by cases e; exact hge0)
            have q1r := (q1.below GR).more GR.size
            have q5r := (q5.below GR).more GR.size
            have qo := Rd.of_own ho
            clear hgr bx ho HI hbl
            go_wp2_with fail
            refine (implSortedStable Ax n dx (idxItems L) n Av i cv (bothL (rkPre F n) (rkPre S n)) (by omega) (by omega) wr q1r qo).mono ?_
            rintro _ w7 ⟨A8, d8, bs, rfl, hp7, hst7, own7, g7⟩
            have HEQ := hide (two_keys HL.out HF.out HSS.out hn HTS.out HUS.out (hst7 (weak_both HF.out HSS.out hn HKX.out)))
            have q8 := Rd.of_own own7
            have q57 := (q5r.below g7).more g7.size
            have G7 := GW.trans (g7.mono GW.size)
            clear own7 hp7 hst7 q1r q5r qo
            have HCE := hide (equalI A5 A8 n n d5 d8 w7.heap.size w7.heap.size us bs w7 q57 q8 (by omega))
            rw [decide_eq_true HEQ.out] at HCE
            clear q57 q8
            go_wp2_with (go_at_call 17; refine HCE.out.mono ?_; rintro _ w8 ⟨rfl, hd⟩; have G8 := G7.trans (hd.below _))
            go_ret
            exact ⟨rfl, G8⟩

set_option maxRecDepth 100000 in
theorem lifted (os : Os) (started : os.Started) (H : Type) (enc : TypeId × Value → H) :
    ReturnsInHanded {} Try.checked os 7 .any (Rows.fnStableTwoKeysSpec.pre6 enc Try.prog Try.f7 Rows.fnStableTwoKeysRow.domain false) (Rows.fnStableTwoKeysSpec.post enc Try.prog Try.f7 false true false false) := by
  refine returnsInHanded_of_change_sized (C := Try.checked) own started (by kernel_rfl) Try.func7
    (ChangeSpec.witness6 (enc := enc) (C := Try.checked) false ⟨#[], #[.slice none 0 0, .slice none 0 0, .slice none 0 0], []⟩ 8 (by kernel_rfl) (by kernel_rfl) (by kernel_rfl) (by kernel_rfl)) ?_
  intro W base args ds gs before hval0 hW _ hsz0 _
  have hsz : (DataW.weightsEach Try.prog (Try.f7.params.toList ++ Rows.fnStableTwoKeysSpec.plain.varTypes Try.prog) (ds ++ gs)).all (· ≤ reachBytes) = true := hsz0
  have hval : ∀ (j : Nat) t v, Try.f7.params[j]? = some t → args[j]? = some v → Value.okWide Try.prog W .any base t v := hval0
  have hW' := hW
  obtain ⟨p, q, hA0, hV, rfl, hfz, hnd⟩ := hW
  have hA : DataW.TrodAll enc Try.prog W 0 (fun _ => true) true Try.f7.params.toList args.toList ds p := hA0
  rw [Try.params7] at hA hval hsz
  obtain ⟨v0, vs0, d0, ds0, p0, q0, hargs, rfl, rfl, h0, rr0⟩ := trodAll_cons hA
  obtain ⟨v1, vs1, d1, ds1, p1, q1, rfl, rfl, rfl, h1, rr1⟩ := trodAll_cons rr0
  obtain ⟨v2, vs2, d2, ds2, p2, q2, rfl, rfl, rfl, h2, rr2⟩ := trodAll_cons rr1
  obtain ⟨rfl, rfl, rfl⟩ := trodAll_nil rr2
  obtain rfl : args = #[v0, v1, v2] := by cases args; simp_all
  obtain ⟨rfl, rfl⟩ := trodVars_none hV
  have t0 := h0
  have lt0 : ∀ x ∈ p0, x.block < W.heap.size := by obtain ⟨m, hm⟩ := t0; exact DataW.trod_lt m _ _ _ hm
  obtain ⟨a0, l0, c0, z0, rfl, k0, m0, r0, f0, u0, s0⟩ := openInts (hval 0 23 v0 rfl rfl) h0
  have b0 := s0 (sized_at hsz 0 rfl rfl)
  have t1 := h1
  have lt1 : ∀ x ∈ p1, x.block < W.heap.size := by obtain ⟨m, hm⟩ := t1; exact DataW.trod_lt m _ _ _ hm
  obtain ⟨a1, l1, c1, z1, rfl, k1, m1, r1, f1, u1, s1⟩ := openInts (hval 1 23 v1 rfl rfl) h1
  have b1 := s1 (sized_at hsz 1 rfl rfl)
  have t2 := h2
  have lt2 : ∀ x ∈ p2, x.block < W.heap.size := by obtain ⟨m, hm⟩ := t2; exact DataW.trod_lt m _ _ _ hm
  obtain ⟨a2, l2, c2, z2, rfl, k2, m2, r2, f2, u2, s2⟩ := openInts (hval 2 23 v2 rfl rfl) h2
  have b2 := s2 (sized_at hsz 2 rfl rfl)
  refine (walk a0 l0 c0 z0 a1 l1 c1 z1 a2 l2 c2 z2 W k0 m0 r0 f0 k1 m1 r1 f1 k2 m2 r2 f2 b0 b1 b2).mono fun e W' ⟨he, bel⟩ => ?_
  subst he
  exact ⟨_, rfl, _, _, _, [], _, [], hW', trodAll_mk1 (shut_bool Try.underlying4 _), (trodAll_cons_mk (Below.trod laidOut (by kernel_rfl) (of_decide_eq_true (by kernel_rfl)) t0 bel lt0) (trodAll_cons_mk (Below.trod laidOut (by kernel_rfl) (of_decide_eq_true (by kernel_rfl)) t1 bel lt1) (trodAll_cons_mk (Below.trod laidOut (by kernel_rfl) (of_decide_eq_true (by kernel_rfl)) t2 bel lt2) trodAll_mk0))), rfl, bel.frame _, fun h => by cases h⟩

theorem over : Rows.fnStableTwoKeysRow.holds Try.pinned (OpenSpec.ofChange Rows.fnStableTwoKeysSpec) :=
  OpenClaim.holds_of_wide 7 Try.f7 rfl rfl rfl rfl rfl rfl rfl ⟨rfl, rfl, rfl, rfl, rfl⟩ rfl rfl rfl rfl rfl (by kernel_rfl) Try.func7 (by kernel_rfl)
    (of_decide_eq_true (by kernel_rfl)) (by unfold Func.isWrapper; first | (rw [if_pos (by decide +kernel)]; kernel_rfl) | (rw [if_neg (by decide +kernel)]; exact ⟨rfl, rfl⟩))
    (fun os started H enc _ => lifted os started H enc)

/-- the given statement -/
theorem proved : Rows.FnStableTwoKeysSaid := over
#print axioms proved
end Go.Proofs.Ytiocgmeonfanmaa.fnStableTwoKeys
