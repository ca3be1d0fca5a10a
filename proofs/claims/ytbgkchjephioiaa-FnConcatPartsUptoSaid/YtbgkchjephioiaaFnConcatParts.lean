/-
  FnConcatParts: the law returns true at every input of at most 1048576 values, and changes nothing that was there.
-/
import Derived.ProofKit
import Derived.OpenShut
import Derived.JoinedCond
import Derived.Deep.CondSized
import Derived.SizedLaws
import Derived.WalkKit
import Derived.WalkLawsBesides
import Derived.Outline
import Derived.Deep.DeepMust
import Derived.Test.YtbgkchjephioiaaOpen
import Derived.Test.YtbgkchjephioiaaOpenR
import Derived.Test.YtbgkchjephioiaaCon
namespace Go.Proofs.Ytbgkchjephioiaa.fnConcatParts
open Go.ChangeShapes Go.WideShapes Go.ChangeAt Go.RowKit
set_option linter.unusedVariables false
set_option linter.unusedSimpArgs false

theorem parts_flat (zz : List (List Int)) (k : Nat) : ([(zz.take k).flatten, [], (zz.drop k).flatten] : List (List Int)).flatten = zz.flatten := by
  simp only [List.flatten_cons, List.flatten_nil, List.append_nil, List.nil_append]
  rw [← List.flatten_append, List.take_append_drop]
theorem drop_le (zz : List (List Int)) (k : Nat) : (zz.drop k).flatten.length ≤ zz.flatten.length := by
  have : zz.flatten = (zz.take k).flatten ++ (zz.drop k).flatten := by rw [← List.flatten_append, List.take_append_drop]
  rw [this, List.length_append]; omega
theorem rows3 {w : World} {B : Nat} {r1 r2 r3 : Option Addr × Nat × Nat} {z1 z2 z3 : List Int} (h1 : Rd w B 1 r1.1 r1.2.1 (ints z1)) (h2 : Rd w B 1 r2.1 r2.2.1 (ints z2)) (h3 : Rd w B 1 r3.1 r3.2.1 (ints z3)) : RowsRd w B [r1, r2, r3] [z1, z2, z3] := by
  refine ⟨rfl, fun i r z hr hz => ?_⟩
  match i, hr, hz with
  | 0, hr, hz => simp at hr hz; subst hr; subst hz; exact h1
  | 1, hr, hz => simp at hr hz; subst hr; subst hz; exact h2
  | 2, hr, hz => simp at hr hz; subst hr; subst hz; exact h3
set_option maxRecDepth 100000 in
set_option maxHeartbeats 4000000 in
theorem walk (a0 : Option Addr) (l0 c0 : Nat) (rs0 : List (Option Addr × Nat × Nat)) (zz0 : List (List Int)) (a1 : Int) (w : World) (k0 : l0 ≤ c0) (m0 : c0 ≤ maxLen) (r0 : Rd w w.heap.size 1 a0 l0 (rows rs0)) (q0 : RowsRd w w.heap.size rs0 zz0) (f1 : (Lit.int .i64 a1).wf = true) (bu : (l0 + zz0.flatten.length) ≤ 1048576) :
    Calls Try.prog 11 #[.slice a0 l0 c0, .int .i64 a1] w fun e w' => e = .returned (.bool true) ∧ Below w.heap.size w w' := by
  obtain ⟨F, hF⟩ : ∃ F, zz0.flatten = F := ⟨_, rfl⟩
  obtain ⟨N, hN⟩ : ∃ N, F.length = N := ⟨_, rfl⟩
  have hle : ∀ k, (zz0.take k).flatten.length ≤ N := fun k => by rw [← hN, ← hF]; exact flatten_take_le zz0 k
  have hld : ∀ k, (zz0.drop k).flatten.length ≤ N := fun k => by rw [← hN, ← hF]; exact drop_le zz0 k
  rw [hF, hN] at bu
  have hb : N * 8 ≤ 140737488351232 := by omega
  have hb2 : N ≤ 9223372036854775807 := by omega
  have hn : l0 ≤ 4194304 := by omega
  have hbt : ∀ k, (zz0.take k).flatten.length * 8 ≤ 140737488351232 := fun k => by have := hle k; omega
  have hbd : ∀ k, (zz0.drop k).flatten.length * 8 ≤ 140737488351232 := fun k => by have := hld k; omega
  have hrl : zz0.length = l0 := by have h1 := r0.1; have h2 := q0.1; rw [rows_length] at h1; omega
  have HL := hide hrl
  have HT := hide hbt
  have HD := hide hbd
  have HF := hide hF
  have HN := hide hN
  have HLE := hide hle
  clear hrl hbt hbd bu hF hN hle hld
  by_cases h1 : 0 < a1
  · by_cases h2 : (l0 : Int) < a1
    · by_cases h3 : 0 < l0
      · have h4 : (0 : Int) < (l0 : Int) := by omega
        by_cases hcq : c0 = l0
        · have hcq3 := hcq.symm
          subst hcq3
          clear hcq
          obtain ⟨F1, hF1⟩ : ∃ F, (zz0.take l0).flatten = F := ⟨_, rfl⟩
          obtain ⟨F2, hF2⟩ : ∃ F, (zz0.drop l0).flatten = F := ⟨_, rfl⟩
          obtain ⟨n1, hn1⟩ : ∃ n, F1.length = n := ⟨_, rfl⟩
          obtain ⟨n2, hn2⟩ : ∃ n, F2.length = n := ⟨_, rfl⟩
          have hb1 : n1 * 8 ≤ 140737488351232 := by rw [← hn1, ← hF1]; exact HT.out l0
          have hb3 : n2 * 8 ≤ 140737488351232 := by rw [← hn2, ← hF2]; exact HD.out l0
          have hpf : ([F1, [], F2] : List (List Int)).flatten = F := by rw [← hF1, ← hF2, parts_flat]; exact HF.out
          have HF1 := hide hF1
          have HF2 := hide hF2
          have HN1 := hide hn1
          have HN2 := hide hn2
          have HPF := hide hpf
          clear hF1 hF2 hn1 hn2 hpf
          go_enter Try.func11, Try.ntmps11
          go_wp2_with fail
          refine (implConcatN _ _ _ (rs0.take l0) (zz0.take l0) F1 n1 HF1.out HN1.out (by omega) hb1 w (by rw [rows_take]; exact r0.takeN (by omega)) (q0.takeN l0)).mono ?_
          rintro e w1 ⟨A1, d1, f1, rfl, own1, g1⟩
          have hs1 := g1.size
          have r1 := (r0.below g1).more hs1
          have q1 := (q0.below g1).more hs1
          go_wp2_with fail
          refine (implConcatN _ _ _ (rs0.drop l0) (zz0.drop l0) F2 n2 HF2.out HN2.out (by omega) hb3 w1 (by rw [rows_drop]; exact Rd.none_ (by omega) (by apply List.drop_eq_nil_of_le; have h1 := r0.1; omega)) (q1.dropN l0)).mono ?_
          rintro e w2 ⟨A2, d2, f2, rfl, own2, g2⟩
          have hs2 := g2.size
          have g02 : Below w.heap.size w w2 := g1.trans (g2.mono hs1)
          have hs02 := g02.size
          obtain ⟨B2, hB2⟩ : ∃ B2, B2 = w2.heap.size := ⟨_, rfl⟩
          obtain ⟨w3, hw3⟩ : ∃ w3, w3 = w2.alloc (.cells #[.slice A1 n1 d1, .slice none 0 0, .slice A2 n2 d2] 22) := ⟨_, rfl⟩
          have hw3s : w3.heap.size = w2.heap.size + 1 := by rw [hw3]; simp
          have rf : Rd w3 w3.heap.size 1 (some ⟨w2.heap.size, 0, none⟩) 3 (rows [(A1, n1, d1), (none, 0, 0), (A2, n2, d2)]) := by
            rw [hw3s, hw3]; exact Rd.fresh w2 [_, _, _] _ 3 rfl
          have g23 : Below w2.heap.size w2 w3 := by rw [hw3]; exact (Below.refl _ _).alloc (Nat.le_refl _) _
          have hs3 := g23.size
          have qf : RowsRd w3 w3.heap.size [(A1, n1, d1), (none, 0, 0), (A2, n2, d2)] [F1, [], F2] :=
            rows3 ((((Rd.of_own own1).below g2).below (g23.mono hs2)).more (by omega)) Rd.zero (((Rd.of_own own2).below g23).more hs3)
          have g03 : Below w.heap.size w w3 := g02.trans (g23.mono hs02)
          have hs03 := g03.size
          clear hw3s own1 own2
          go_wp2_with fail
          rw [← hw3]
          clear hw3
          refine (implConcatN _ _ _ _ [F1, [], F2] F N HPF.out HN.out (by decide) hb w3 rf qf).mono ?_
          rintro e w4 ⟨A4, d4, f4, rfl, own4, g4⟩
          have hs4 := g4.size
          have g04 : Below w.heap.size w w4 := g03.trans (g4.mono hs03)
          have hs04 := g04.size
          clear rf qf
          go_wp2_with fail
          refine (implConcatN a0 l0 _ rs0 zz0 F N HF.out HN.out (by omega) hb w4 ((r0.below g04).more hs04) ((q0.below g04).more hs04)).mono ?_
          rintro e w5 ⟨A5, d5, f5, rfl, own5, g5⟩
          have hs5 := g5.size
          have g05 : Below w.heap.size w w5 := g04.trans (g5.mono hs04)
          have hs05 := g05.size
          have x4 : Rd w5 w4.heap.size 1 A4 N (ints F) := (Rd.of_own own4).below g5
          have x5 : Rd w5 w5.heap.size 1 A5 N (ints F) := Rd.of_own own5
          have r5 := (r0.below g05)
          have q5 := (q0.below g05)
          clear own4 own5 r1 q1 g1 g2 g02 g23 g03 g4 g04 g5
          go_wp2_with fail
          go_loop [13, 49] (fun s i => ∃ k S : Nat, k ≤ l0 ∧ S ≤ N ∧ i = .int .i64 k ∧ s = .int .i64 S ∧ Hid ((zz0.take k).flatten.length = S)) (fun _ i => l0 - (intOf i).toNat)
          case atStart => exact ⟨0, 0, Nat.zero_le _, Nat.zero_le _, rfl, rfl, by simp [Hid]⟩
          case round =>
            obtain ⟨k, S, hk, hS, rfl, rfl, HKS⟩ := hrel
            by_cases hlt : k < l0
            · obtain ⟨b, off, A', m, c', z, rfl, hbb, hrk, hzk, hcell, hrd⟩ := q5.at_ r5 hlt
              have hzl : z.length = m := by have := hrd.1; simpa using this
              have hlen : (zz0.take (k + 1)).flatten.length = S + m := by rw [flatten_snoc hzk.out, List.length_append, HKS.out, hzl]
              have hsm : S + m ≤ N := by rw [← hlen]; exact HLE.out (k + 1)
              have HLEN := hide hlen
              clear hlen hzl
              go_wp2
              go_round
              case rel => exact ⟨k + 1, S + m, by omega, by omega, by go_num, by go_num, HLEN⟩
              case measure => simp [intOf]; omega
            · obtain rfl : k = l0 := by omega
              have hSN : S = N := by
                have h := HKS.out
                rw [List.take_of_length_le (by rw [HL.out]; exact Nat.le_refl _)] at h
                rw [← h, HF.out, HN.out]
              subst hSN
              have hee : ((S : Int) == (S : Int)) = true := by simp
              clear HKS
              go_wp2_with fail
              refine (equalIntT _ _ _ _ _ _ _ _ _ w5 x4 x5 hb2).mono ?_
              rintro e w6 ⟨rfl, hd⟩
              go_wp2
              go_ret
              exact ⟨by simp, g05.trans (hd.below _)⟩
        · have hcq2 : l0 < c0 := by omega
          obtain ⟨F1, hF1⟩ : ∃ F, (zz0.take l0).flatten = F := ⟨_, rfl⟩
          obtain ⟨F2, hF2⟩ : ∃ F, (zz0.drop l0).flatten = F := ⟨_, rfl⟩
          obtain ⟨n1, hn1⟩ : ∃ n, F1.length = n := ⟨_, rfl⟩
          obtain ⟨n2, hn2⟩ : ∃ n, F2.length = n := ⟨_, rfl⟩
          have hb1 : n1 * 8 ≤ 140737488351232 := by rw [← hn1, ← hF1]; exact HT.out l0
          have hb3 : n2 * 8 ≤ 140737488351232 := by rw [← hn2, ← hF2]; exact HD.out l0
          have hpf : ([F1, [], F2] : List (List Int)).flatten = F := by rw [← hF1, ← hF2, parts_flat]; exact HF.out
          have HF1 := hide hF1
          have HF2 := hide hF2
          have HN1 := hide hn1
          have HN2 := hide hn2
          have HPF := hide hpf
          clear hF1 hF2 hn1 hn2 hpf
          go_enter Try.func11, Try.ntmps11
          go_wp2_with fail
          refine (implConcatN _ _ _ (rs0.take l0) (zz0.take l0) F1 n1 HF1.out HN1.out (by omega) hb1 w (by rw [rows_take]; exact r0.takeN (by omega)) (q0.takeN l0)).mono ?_
          rintro e w1 ⟨A1, d1, f1, rfl, own1, g1⟩
          have hs1 := g1.size
          have r1 := (r0.below g1).more hs1
          have q1 := (q0.below g1).more hs1
          go_wp2_with fail
          refine (implConcatN _ _ _ (rs0.drop l0) (zz0.drop l0) F2 n2 HF2.out HN2.out (by omega) hb3 w1 (by rw [rows_drop]; exact Rd.none_ (by omega) (by apply List.drop_eq_nil_of_le; have h1 := r0.1; omega)) (q1.dropN l0)).mono ?_
          rintro e w2 ⟨A2, d2, f2, rfl, own2, g2⟩
          have hs2 := g2.size
          have g02 : Below w.heap.size w w2 := g1.trans (g2.mono hs1)
          have hs02 := g02.size
          obtain ⟨B2, hB2⟩ : ∃ B2, B2 = w2.heap.size := ⟨_, rfl⟩
          obtain ⟨w3, hw3⟩ : ∃ w3, w3 = w2.alloc (.cells #[.slice A1 n1 d1, .slice none 0 0, .slice A2 n2 d2] 22) := ⟨_, rfl⟩
          have hw3s : w3.heap.size = w2.heap.size + 1 := by rw [hw3]; simp
          have rf : Rd w3 w3.heap.size 1 (some ⟨w2.heap.size, 0, none⟩) 3 (rows [(A1, n1, d1), (none, 0, 0), (A2, n2, d2)]) := by
            rw [hw3s, hw3]; exact Rd.fresh w2 [_, _, _] _ 3 rfl
          have g23 : Below w2.heap.size w2 w3 := by rw [hw3]; exact (Below.refl _ _).alloc (Nat.le_refl _) _
          have hs3 := g23.size
          have qf : RowsRd w3 w3.heap.size [(A1, n1, d1), (none, 0, 0), (A2, n2, d2)] [F1, [], F2] :=
            rows3 ((((Rd.of_own own1).below g2).below (g23.mono hs2)).more (by omega)) Rd.zero (((Rd.of_own own2).below g23).more hs3)
          have g03 : Below w.heap.size w w3 := g02.trans (g23.mono hs02)
          have hs03 := g03.size
          clear hw3s own1 own2
          go_wp2_with fail
          rw [← hw3]
          clear hw3
          refine (implConcatN _ _ _ _ [F1, [], F2] F N HPF.out HN.out (by decide) hb w3 rf qf).mono ?_
          rintro e w4 ⟨A4, d4, f4, rfl, own4, g4⟩
          have hs4 := g4.size
          have g04 : Below w.heap.size w w4 := g03.trans (g4.mono hs03)
          have hs04 := g04.size
          clear rf qf
          go_wp2_with fail
          refine (implConcatN a0 l0 _ rs0 zz0 F N HF.out HN.out (by omega) hb w4 ((r0.below g04).more hs04) ((q0.below g04).more hs04)).mono ?_
          rintro e w5 ⟨A5, d5, f5, rfl, own5, g5⟩
          have hs5 := g5.size
          have g05 : Below w.heap.size w w5 := g04.trans (g5.mono hs04)
          have hs05 := g05.size
          have x4 : Rd w5 w4.heap.size 1 A4 N (ints F) := (Rd.of_own own4).below g5
          have x5 : Rd w5 w5.heap.size 1 A5 N (ints F) := Rd.of_own own5
          have r5 := (r0.below g05)
          have q5 := (q0.below g05)
          clear own4 own5 r1 q1 g1 g2 g02 g23 g03 g4 g04 g5
          go_wp2_with fail
          go_loop [13, 49] (fun s i => ∃ k S : Nat, k ≤ l0 ∧ S ≤ N ∧ i = .int .i64 k ∧ s = .int .i64 S ∧ Hid ((zz0.take k).flatten.length = S)) (fun _ i => l0 - (intOf i).toNat)
          case atStart => exact ⟨0, 0, Nat.zero_le _, Nat.zero_le _, rfl, rfl, by simp [Hid]⟩
          case round =>
            obtain ⟨k, S, hk, hS, rfl, rfl, HKS⟩ := hrel
            by_cases hlt : k < l0
            · obtain ⟨b, off, A', m, c', z, rfl, hbb, hrk, hzk, hcell, hrd⟩ := q5.at_ r5 hlt
              have hzl : z.length = m := by have := hrd.1; simpa using this
              have hlen : (zz0.take (k + 1)).flatten.length = S + m := by rw [flatten_snoc hzk.out, List.length_append, HKS.out, hzl]
              have hsm : S + m ≤ N := by rw [← hlen]; exact HLE.out (k + 1)
              have HLEN := hide hlen
              clear hlen hzl
              go_wp2
              go_round
              case rel => exact ⟨k + 1, S + m, by omega, by omega, by go_num, by go_num, HLEN⟩
              case measure => simp [intOf]; omega
            · obtain rfl : k = l0 := by omega
              have hSN : S = N := by
                have h := HKS.out
                rw [List.take_of_length_le (by rw [HL.out]; exact Nat.le_refl _)] at h
                rw [← h, HF.out, HN.out]
              subst hSN
              have hee : ((S : Int) == (S : Int)) = true := by simp
              clear HKS
              go_wp2_with fail
              refine (equalIntT _ _ _ _ _ _ _ _ _ w5 x4 x5 hb2).mono ?_
              rintro e w6 ⟨rfl, hd⟩
              go_wp2
              go_ret
              exact ⟨by simp, g05.trans (hd.below _)⟩
      · have h4 : ¬ (0 : Int) < (l0 : Int) := by omega
        by_cases hcq : c0 = 0
        · have hcq3 := hcq.symm
          subst hcq3
          clear hcq
          obtain ⟨F1, hF1⟩ : ∃ F, (zz0.take 0).flatten = F := ⟨_, rfl⟩
          obtain ⟨F2, hF2⟩ : ∃ F, (zz0.drop 0).flatten = F := ⟨_, rfl⟩
          obtain ⟨n1, hn1⟩ : ∃ n, F1.length = n := ⟨_, rfl⟩
          obtain ⟨n2, hn2⟩ : ∃ n, F2.length = n := ⟨_, rfl⟩
          have hb1 : n1 * 8 ≤ 140737488351232 := by rw [← hn1, ← hF1]; exact HT.out 0
          have hb3 : n2 * 8 ≤ 140737488351232 := by rw [← hn2, ← hF2]; exact HD.out 0
          have hpf : ([F1, [], F2] : List (List Int)).flatten = F := by rw [← hF1, ← hF2, parts_flat]; exact HF.out
          have HF1 := hide hF1
          have HF2 := hide hF2
          have HN1 := hide hn1
          have HN2 := hide hn2
          have HPF := hide hpf
          clear hF1 hF2 hn1 hn2 hpf
          go_enter Try.func11, Try.ntmps11
          go_wp2_with fail
          refine (implConcatN _ _ _ (rs0.take 0) (zz0.take 0) F1 n1 HF1.out HN1.out (by omega) hb1 w (by rw [rows_take]; exact r0.takeN (by omega)) (q0.takeN 0)).mono ?_
          rintro e w1 ⟨A1, d1, f1, rfl, own1, g1⟩
          have hs1 := g1.size
          have r1 := (r0.below g1).more hs1
          have q1 := (q0.below g1).more hs1
          go_wp2_with fail
          refine (implConcatN _ _ _ (rs0.drop 0) (zz0.drop 0) F2 n2 HF2.out HN2.out (by omega) hb3 w1 (by rw [rows_drop]; exact Rd.none_ (by omega) (by apply List.drop_eq_nil_of_le; have h1 := r0.1; omega)) (q1.dropN 0)).mono ?_
          rintro e w2 ⟨A2, d2, f2, rfl, own2, g2⟩
          have hs2 := g2.size
          have g02 : Below w.heap.size w w2 := g1.trans (g2.mono hs1)
          have hs02 := g02.size
          obtain ⟨B2, hB2⟩ : ∃ B2, B2 = w2.heap.size := ⟨_, rfl⟩
          obtain ⟨w3, hw3⟩ : ∃ w3, w3 = w2.alloc (.cells #[.slice A1 n1 d1, .slice none 0 0, .slice A2 n2 d2] 22) := ⟨_, rfl⟩
          have hw3s : w3.heap.size = w2.heap.size + 1 := by rw [hw3]; simp
          have rf : Rd w3 w3.heap.size 1 (some ⟨w2.heap.size, 0, none⟩) 3 (rows [(A1, n1, d1), (none, 0, 0), (A2, n2, d2)]) := by
            rw [hw3s, hw3]; exact Rd.fresh w2 [_, _, _] _ 3 rfl
          have g23 : Below w2.heap.size w2 w3 := by rw [hw3]; exact (Below.refl _ _).alloc (Nat.le_refl _) _
          have hs3 := g23.size
          have qf : RowsRd w3 w3.heap.size [(A1, n1, d1), (none, 0, 0), (A2, n2, d2)] [F1, [], F2] :=
            rows3 ((((Rd.of_own own1).below g2).below (g23.mono hs2)).more (by omega)) Rd.zero (((Rd.of_own own2).below g23).more hs3)
          have g03 : Below w.heap.size w w3 := g02.trans (g23.mono hs02)
          have hs03 := g03.size
          clear hw3s own1 own2
          go_wp2_with fail
          rw [← hw3]
          clear hw3
          refine (implConcatN _ _ _ _ [F1, [], F2] F N HPF.out HN.out (by decide) hb w3 rf qf).mono ?_
          rintro e w4 ⟨A4, d4, f4, rfl, own4, g4⟩
          have hs4 := g4.size
          have g04 : Below w.heap.size w w4 := g03.trans (g4.mono hs03)
          have hs04 := g04.size
          clear rf qf
          go_wp2_with fail
          refine (implConcatN a0 l0 _ rs0 zz0 F N HF.out HN.out (by omega) hb w4 ((r0.below g04).more hs04) ((q0.below g04).more hs04)).mono ?_
          rintro e w5 ⟨A5, d5, f5, rfl, own5, g5⟩
          have hs5 := g5.size
          have g05 : Below w.heap.size w w5 := g04.trans (g5.mono hs04)
          have hs05 := g05.size
          have x4 : Rd w5 w4.heap.size 1 A4 N (ints F) := (Rd.of_own own4).below g5
          have x5 : Rd w5 w5.heap.size 1 A5 N (ints F) := Rd.of_own own5
          have r5 := (r0.below g05)
          have q5 := (q0.below g05)
          clear own4 own5 r1 q1 g1 g2 g02 g23 g03 g4 g04 g5
          go_wp2_with fail
          go_loop [13, 49] (fun s i => ∃ k S : Nat, k ≤ l0 ∧ S ≤ N ∧ i = .int .i64 k ∧ s = .int .i64 S ∧ Hid ((zz0.take k).flatten.length = S)) (fun _ i => l0 - (intOf i).toNat)
          case atStart => exact ⟨0, 0, Nat.zero_le _, Nat.zero_le _, rfl, rfl, by simp [Hid]⟩
          case round =>
            obtain ⟨k, S, hk, hS, rfl, rfl, HKS⟩ := hrel
            by_cases hlt : k < l0
            · obtain ⟨b, off, A', m, c', z, rfl, hbb, hrk, hzk, hcell, hrd⟩ := q5.at_ r5 hlt
              have hzl : z.length = m := by have := hrd.1; simpa using this
              have hlen : (zz0.take (k + 1)).flatten.length = S + m := by rw [flatten_snoc hzk.out, List.length_append, HKS.out, hzl]
              have hsm : S + m ≤ N := by rw [← hlen]; exact HLE.out (k + 1)
              have HLEN := hide hlen
              clear hlen hzl
              go_wp2
              go_round
              case rel => exact ⟨k + 1, S + m, by omega, by omega, by go_num, by go_num, HLEN⟩
              case measure => simp [intOf]; omega
            · obtain rfl : k = l0 := by omega
              have hSN : S = N := by
                have h := HKS.out
                rw [List.take_of_length_le (by rw [HL.out]; exact Nat.le_refl _)] at h
                rw [← h, HF.out, HN.out]
              subst hSN
              have hee : ((S : Int) == (S : Int)) = true := by simp
              clear HKS
              go_wp2_with fail
              refine (equalIntT _ _ _ _ _ _ _ _ _ w5 x4 x5 hb2).mono ?_
              rintro e w6 ⟨rfl, hd⟩
              go_wp2
              go_ret
              exact ⟨by simp, g05.trans (hd.below _)⟩
        · have hcq2 : 0 < c0 := by omega
          obtain ⟨F1, hF1⟩ : ∃ F, (zz0.take 0).flatten = F := ⟨_, rfl⟩
          obtain ⟨F2, hF2⟩ : ∃ F, (zz0.drop 0).flatten = F := ⟨_, rfl⟩
          obtain ⟨n1, hn1⟩ : ∃ n, F1.length = n := ⟨_, rfl⟩
          obtain ⟨n2, hn2⟩ : ∃ n, F2.length = n := ⟨_, rfl⟩
          have hb1 : n1 * 8 ≤ 140737488351232 := by rw [← hn1, ← hF1]; exact HT.out 0
          have hb3 : n2 * 8 ≤ 140737488351232 := by rw [← hn2, ← hF2]; exact HD.out 0
          have hpf : ([F1, [], F2] : List (List Int)).flatten = F := by rw [← hF1, ← hF2, parts_flat]; exact HF.out
          have HF1 := hide hF1
          have HF2 := hide hF2
          have HN1 := hide hn1
          have HN2 := hide hn2
          have HPF := hide hpf
          clear hF1 hF2 hn1 hn2 hpf
          go_enter Try.func11, Try.ntmps11
          go_wp2_with fail
          refine (implConcatN _ _ _ (rs0.take 0) (zz0.take 0) F1 n1 HF1.out HN1.out (by omega) hb1 w (by rw [rows_take]; exact r0.takeN (by omega)) (q0.takeN 0)).mono ?_
          rintro e w1 ⟨A1, d1, f1, rfl, own1, g1⟩
          have hs1 := g1.size
          have r1 := (r0.below g1).more hs1
          have q1 := (q0.below g1).more hs1
          go_wp2_with fail
          refine (implConcatN _ _ _ (rs0.drop 0) (zz0.drop 0) F2 n2 HF2.out HN2.out (by omega) hb3 w1 (by rw [rows_drop]; simpa using r1) (q1.dropN 0)).mono ?_
          rintro e w2 ⟨A2, d2, f2, rfl, own2, g2⟩
          have hs2 := g2.size
          have g02 : Below w.heap.size w w2 := g1.trans (g2.mono hs1)
          have hs02 := g02.size
          obtain ⟨B2, hB2⟩ : ∃ B2, B2 = w2.heap.size := ⟨_, rfl⟩
          obtain ⟨w3, hw3⟩ : ∃ w3, w3 = w2.alloc (.cells #[.slice A1 n1 d1, .slice none 0 0, .slice A2 n2 d2] 22) := ⟨_, rfl⟩
          have hw3s : w3.heap.size = w2.heap.size + 1 := by rw [hw3]; simp
          have rf : Rd w3 w3.heap.size 1 (some ⟨w2.heap.size, 0, none⟩) 3 (rows [(A1, n1, d1), (none, 0, 0), (A2, n2, d2)]) := by
            rw [hw3s, hw3]; exact Rd.fresh w2 [_, _, _] _ 3 rfl
          have g23 : Below w2.heap.size w2 w3 := by rw [hw3]; exact (Below.refl _ _).alloc (Nat.le_refl _) _
          have hs3 := g23.size
          have qf : RowsRd w3 w3.heap.size [(A1, n1, d1), (none, 0, 0), (A2, n2, d2)] [F1, [], F2] :=
            rows3 ((((Rd.of_own own1).below g2).below (g23.mono hs2)).more (by omega)) Rd.zero (((Rd.of_own own2).below g23).more hs3)
          have g03 : Below w.heap.size w w3 := g02.trans (g23.mono hs02)
          have hs03 := g03.size
          clear hw3s own1 own2
          go_wp2_with fail
          rw [← hw3]
          clear hw3
          refine (implConcatN _ _ _ _ [F1, [], F2] F N HPF.out HN.out (by decide) hb w3 rf qf).mono ?_
          rintro e w4 ⟨A4, d4, f4, rfl, own4, g4⟩
          have hs4 := g4.size
          have g04 : Below w.heap.size w w4 := g03.trans (g4.mono hs03)
          have hs04 := g04.size
          clear rf qf
          go_wp2_with fail
          refine (implConcatN a0 l0 _ rs0 zz0 F N HF.out HN.out (by omega) hb w4 ((r0.below g04).more hs04) ((q0.below g04).more hs04)).mono ?_
          rintro e w5 ⟨A5, d5, f5, rfl, own5, g5⟩
          have hs5 := g5.size
          have g05 : Below w.heap.size w w5 := g04.trans (g5.mono hs04)
          have hs05 := g05.size
          have x4 : Rd w5 w4.heap.size 1 A4 N (ints F) := (Rd.of_own own4).below g5
          have x5 : Rd w5 w5.heap.size 1 A5 N (ints F) := Rd.of_own own5
          have r5 := (r0.below g05)
          have q5 := (q0.below g05)
          clear own4 own5 r1 q1 g1 g2 g02 g23 g03 g4 g04 g5
          go_wp2_with fail
          go_loop [13, 49] (fun s i => ∃ k S : Nat, k ≤ l0 ∧ S ≤ N ∧ i = .int .i64 k ∧ s = .int .i64 S ∧ Hid ((zz0.take k).flatten.length = S)) (fun _ i => l0 - (intOf i).toNat)
          case atStart => exact ⟨0, 0, Nat.zero_le _, Nat.zero_le _, rfl, rfl, by simp [Hid]⟩
          case round =>
            obtain ⟨k, S, hk, hS, rfl, rfl, HKS⟩ := hrel
            by_cases hlt : k < l0
            · obtain ⟨b, off, A', m, c', z, rfl, hbb, hrk, hzk, hcell, hrd⟩ := q5.at_ r5 hlt
              have hzl : z.length = m := by have := hrd.1; simpa using this
              have hlen : (zz0.take (k + 1)).flatten.length = S + m := by rw [flatten_snoc hzk.out, List.length_append, HKS.out, hzl]
              have hsm : S + m ≤ N := by rw [← hlen]; exact HLE.out (k + 1)
              have HLEN := hide hlen
              clear hlen hzl
              go_wp2
              go_round
              case rel => exact ⟨k + 1, S + m, by omega, by omega, by go_num, by go_num, HLEN⟩
              case measure => simp [intOf]; omega
            · obtain rfl : k = l0 := by omega
              have hSN : S = N := by
                have h := HKS.out
                rw [List.take_of_length_le (by rw [HL.out]; exact Nat.le_refl _)] at h
                rw [← h, HF.out, HN.out]
              subst hSN
              have hee : ((S : Int) == (S : Int)) = true := by simp
              clear HKS
              go_wp2_with fail
              refine (equalIntT _ _ _ _ _ _ _ _ _ w5 x4 x5 hb2).mono ?_
              rintro e w6 ⟨rfl, hd⟩
              go_wp2
              go_ret
              exact ⟨by simp, g05.trans (hd.below _)⟩
    · obtain ⟨q, rfl⟩ : ∃ q : Nat, a1 = q := ⟨a1.toNat, by omega⟩
      have h3 : q ≤ l0 := by omega
      by_cases hcq : c0 = q
      · have hcq3 := hcq.symm
        subst hcq3
        clear hcq
        obtain ⟨F1, hF1⟩ : ∃ F, (zz0.take q).flatten = F := ⟨_, rfl⟩
        obtain ⟨F2, hF2⟩ : ∃ F, (zz0.drop q).flatten = F := ⟨_, rfl⟩
        obtain ⟨n1, hn1⟩ : ∃ n, F1.length = n := ⟨_, rfl⟩
        obtain ⟨n2, hn2⟩ : ∃ n, F2.length = n := ⟨_, rfl⟩
        have hb1 : n1 * 8 ≤ 140737488351232 := by rw [← hn1, ← hF1]; exact HT.out q
        have hb3 : n2 * 8 ≤ 140737488351232 := by rw [← hn2, ← hF2]; exact HD.out q
        have hpf : ([F1, [], F2] : List (List Int)).flatten = F := by rw [← hF1, ← hF2, parts_flat]; exact HF.out
        have HF1 := hide hF1
        have HF2 := hide hF2
        have HN1 := hide hn1
        have HN2 := hide hn2
        have HPF := hide hpf
        clear hF1 hF2 hn1 hn2 hpf
        go_enter Try.func11, Try.ntmps11
        go_wp2_with fail
        refine (implConcatN _ _ _ (rs0.take q) (zz0.take q) F1 n1 HF1.out HN1.out (by omega) hb1 w (by rw [rows_take]; exact r0.takeN (by omega)) (q0.takeN q)).mono ?_
        rintro e w1 ⟨A1, d1, f1, rfl, own1, g1⟩
        have hs1 := g1.size
        have r1 := (r0.below g1).more hs1
        have q1 := (q0.below g1).more hs1
        go_wp2_with fail
        refine (implConcatN _ _ _ (rs0.drop q) (zz0.drop q) F2 n2 HF2.out HN2.out (by omega) hb3 w1 (by rw [rows_drop]; exact Rd.none_ (by omega) (by apply List.drop_eq_nil_of_le; have h1 := r0.1; omega)) (q1.dropN q)).mono ?_
        rintro e w2 ⟨A2, d2, f2, rfl, own2, g2⟩
        have hs2 := g2.size
        have g02 : Below w.heap.size w w2 := g1.trans (g2.mono hs1)
        have hs02 := g02.size
        obtain ⟨B2, hB2⟩ : ∃ B2, B2 = w2.heap.size := ⟨_, rfl⟩
        obtain ⟨w3, hw3⟩ : ∃ w3, w3 = w2.alloc (.cells #[.slice A1 n1 d1, .slice none 0 0, .slice A2 n2 d2] 22) := ⟨_, rfl⟩
        have hw3s : w3.heap.size = w2.heap.size + 1 := by rw [hw3]; simp
        have rf : Rd w3 w3.heap.size 1 (some ⟨w2.heap.size, 0, none⟩) 3 (rows [(A1, n1, d1), (none, 0, 0), (A2, n2, d2)]) := by
          rw [hw3s, hw3]; exact Rd.fresh w2 [_, _, _] _ 3 rfl
        have g23 : Below w2.heap.size w2 w3 := by rw [hw3]; exact (Below.refl _ _).alloc (Nat.le_refl _) _
        have hs3 := g23.size
        have qf : RowsRd w3 w3.heap.size [(A1, n1, d1), (none, 0, 0), (A2, n2, d2)] [F1, [], F2] :=
          rows3 ((((Rd.of_own own1).below g2).below (g23.mono hs2)).more (by omega)) Rd.zero (((Rd.of_own own2).below g23).more hs3)
        have g03 : Below w.heap.size w w3 := g02.trans (g23.mono hs02)
        have hs03 := g03.size
        clear hw3s own1 own2
        go_wp2_with fail
        rw [← hw3]
        clear hw3
        refine (implConcatN _ _ _ _ [F1, [], F2] F N HPF.out HN.out (by decide) hb w3 rf qf).mono ?_
        rintro e w4 ⟨A4, d4, f4, rfl, own4, g4⟩
        have hs4 := g4.size
        have g04 : Below w.heap.size w w4 := g03.trans (g4.mono hs03)
        have hs04 := g04.size
        clear rf qf
        go_wp2_with fail
        refine (implConcatN a0 l0 _ rs0 zz0 F N HF.out HN.out (by omega) hb w4 ((r0.below g04).more hs04) ((q0.below g04).more hs04)).mono ?_
        rintro e w5 ⟨A5, d5, f5, rfl, own5, g5⟩
        have hs5 := g5.size
        have g05 : Below w.heap.size w w5 := g04.trans (g5.mono hs04)
        have hs05 := g05.size
        have x4 : Rd w5 w4.heap.size 1 A4 N (ints F) := (Rd.of_own own4).below g5
        have x5 : Rd w5 w5.heap.size 1 A5 N (ints F) := Rd.of_own own5
        have r5 := (r0.below g05)
        have q5 := (q0.below g05)
        clear own4 own5 r1 q1 g1 g2 g02 g23 g03 g4 g04 g5
        go_wp2_with fail
        go_loop [13, 49] (fun s i => ∃ k S : Nat, k ≤ l0 ∧ S ≤ N ∧ i = .int .i64 k ∧ s = .int .i64 S ∧ Hid ((zz0.take k).flatten.length = S)) (fun _ i => l0 - (intOf i).toNat)
        case atStart => exact ⟨0, 0, Nat.zero_le _, Nat.zero_le _, rfl, rfl, by simp [Hid]⟩
        case round =>
          obtain ⟨k, S, hk, hS, rfl, rfl, HKS⟩ := hrel
          by_cases hlt : k < l0
          · obtain ⟨b, off, A', m, c', z, rfl, hbb, hrk, hzk, hcell, hrd⟩ := q5.at_ r5 hlt
            have hzl : z.length = m := by have := hrd.1; simpa using this
            have hlen : (zz0.take (k + 1)).flatten.length = S + m := by rw [flatten_snoc hzk.out, List.length_append, HKS.out, hzl]
            have hsm : S + m ≤ N := by rw [← hlen]; exact HLE.out (k + 1)
            have HLEN := hide hlen
            clear hlen hzl
            go_wp2
            go_round
            case rel => exact ⟨k + 1, S + m, by omega, by omega, by go_num, by go_num, HLEN⟩
            case measure => simp [intOf]; omega
          · obtain rfl : k = l0 := by omega
            have hSN : S = N := by
              have h := HKS.out
              rw [List.take_of_length_le (by rw [HL.out]; exact Nat.le_refl _)] at h
              rw [← h, HF.out, HN.out]
            subst hSN
            have hee : ((S : Int) == (S : Int)) = true := by simp
            clear HKS
            go_wp2_with fail
            refine (equalIntT _ _ _ _ _ _ _ _ _ w5 x4 x5 hb2).mono ?_
            rintro e w6 ⟨rfl, hd⟩
            go_wp2
            go_ret
            exact ⟨by simp, g05.trans (hd.below _)⟩
      · have hcq2 : q < c0 := by omega
        obtain ⟨F1, hF1⟩ : ∃ F, (zz0.take q).flatten = F := ⟨_, rfl⟩
        obtain ⟨F2, hF2⟩ : ∃ F, (zz0.drop q).flatten = F := ⟨_, rfl⟩
        obtain ⟨n1, hn1⟩ : ∃ n, F1.length = n := ⟨_, rfl⟩
        obtain ⟨n2, hn2⟩ : ∃ n, F2.length = n := ⟨_, rfl⟩
        have hb1 : n1 * 8 ≤ 140737488351232 := by rw [← hn1, ← hF1]; exact HT.out q
        have hb3 : n2 * 8 ≤ 140737488351232 := by rw [← hn2, ← hF2]; exact HD.out q
        have hpf : ([F1, [], F2] : List (List Int)).flatten = F := by rw [← hF1, ← hF2, parts_flat]; exact HF.out
        have HF1 := hide hF1
        have HF2 := hide hF2
        have HN1 := hide hn1
        have HN2 := hide hn2
        have HPF := hide hpf
        clear hF1 hF2 hn1 hn2 hpf
        go_enter Try.func11, Try.ntmps11
        go_wp2_with fail
        refine (implConcatN _ _ _ (rs0.take q) (zz0.take q) F1 n1 HF1.out HN1.out (by omega) hb1 w (by rw [rows_take]; exact r0.takeN (by omega)) (q0.takeN q)).mono ?_
        rintro e w1 ⟨A1, d1, f1, rfl, own1, g1⟩
        have hs1 := g1.size
        have r1 := (r0.below g1).more hs1
        have q1 := (q0.below g1).more hs1
        go_wp2_with fail
        refine (implConcatN _ _ _ (rs0.drop q) (zz0.drop q) F2 n2 HF2.out HN2.out (by omega) hb3 w1 (by rw [rows_drop]; exact r1.dropN (by omega)) (q1.dropN q)).mono ?_
        rintro e w2 ⟨A2, d2, f2, rfl, own2, g2⟩
        have hs2 := g2.size
        have g02 : Below w.heap.size w w2 := g1.trans (g2.mono hs1)
        have hs02 := g02.size
        obtain ⟨B2, hB2⟩ : ∃ B2, B2 = w2.heap.size := ⟨_, rfl⟩
        obtain ⟨w3, hw3⟩ : ∃ w3, w3 = w2.alloc (.cells #[.slice A1 n1 d1, .slice none 0 0, .slice A2 n2 d2] 22) := ⟨_, rfl⟩
        have hw3s : w3.heap.size = w2.heap.size + 1 := by rw [hw3]; simp
        have rf : Rd w3 w3.heap.size 1 (some ⟨w2.heap.size, 0, none⟩) 3 (rows [(A1, n1, d1), (none, 0, 0), (A2, n2, d2)]) := by
          rw [hw3s, hw3]; exact Rd.fresh w2 [_, _, _] _ 3 rfl
        have g23 : Below w2.heap.size w2 w3 := by rw [hw3]; exact (Below.refl _ _).alloc (Nat.le_refl _) _
        have hs3 := g23.size
        have qf : RowsRd w3 w3.heap.size [(A1, n1, d1), (none, 0, 0), (A2, n2, d2)] [F1, [], F2] :=
          rows3 ((((Rd.of_own own1).below g2).below (g23.mono hs2)).more (by omega)) Rd.zero (((Rd.of_own own2).below g23).more hs3)
        have g03 : Below w.heap.size w w3 := g02.trans (g23.mono hs02)
        have hs03 := g03.size
        clear hw3s own1 own2
        go_wp2_with fail
        rw [← hw3]
        clear hw3
        refine (implConcatN _ _ _ _ [F1, [], F2] F N HPF.out HN.out (by decide) hb w3 rf qf).mono ?_
        rintro e w4 ⟨A4, d4, f4, rfl, own4, g4⟩
        have hs4 := g4.size
        have g04 : Below w.heap.size w w4 := g03.trans (g4.mono hs03)
        have hs04 := g04.size
        clear rf qf
        go_wp2_with fail
        refine (implConcatN a0 l0 _ rs0 zz0 F N HF.out HN.out (by omega) hb w4 ((r0.below g04).more hs04) ((q0.below g04).more hs04)).mono ?_
        rintro e w5 ⟨A5, d5, f5, rfl, own5, g5⟩
        have hs5 := g5.size
        have g05 : Below w.heap.size w w5 := g04.trans (g5.mono hs04)
        have hs05 := g05.size
        have x4 : Rd w5 w4.heap.size 1 A4 N (ints F) := (Rd.of_own own4).below g5
        have x5 : Rd w5 w5.heap.size 1 A5 N (ints F) := Rd.of_own own5
        have r5 := (r0.below g05)
        have q5 := (q0.below g05)
        clear own4 own5 r1 q1 g1 g2 g02 g23 g03 g4 g04 g5
        go_wp2_with fail
        go_loop [13, 49] (fun s i => ∃ k S : Nat, k ≤ l0 ∧ S ≤ N ∧ i = .int .i64 k ∧ s = .int .i64 S ∧ Hid ((zz0.take k).flatten.length = S)) (fun _ i => l0 - (intOf i).toNat)
        case atStart => exact ⟨0, 0, Nat.zero_le _, Nat.zero_le _, rfl, rfl, by simp [Hid]⟩
        case round =>
          obtain ⟨k, S, hk, hS, rfl, rfl, HKS⟩ := hrel
          by_cases hlt : k < l0
          · obtain ⟨b, off, A', m, c', z, rfl, hbb, hrk, hzk, hcell, hrd⟩ := q5.at_ r5 hlt
            have hzl : z.length = m := by have := hrd.1; simpa using this
            have hlen : (zz0.take (k + 1)).flatten.length = S + m := by rw [flatten_snoc hzk.out, List.length_append, HKS.out, hzl]
            have hsm : S + m ≤ N := by rw [← hlen]; exact HLE.out (k + 1)
            have HLEN := hide hlen
            clear hlen hzl
            go_wp2
            go_round
            case rel => exact ⟨k + 1, S + m, by omega, by omega, by go_num, by go_num, HLEN⟩
            case measure => simp [intOf]; omega
          · obtain rfl : k = l0 := by omega
            have hSN : S = N := by
              have h := HKS.out
              rw [List.take_of_length_le (by rw [HL.out]; exact Nat.le_refl _)] at h
              rw [← h, HF.out, HN.out]
            subst hSN
            have hee : ((S : Int) == (S : Int)) = true := by simp
            clear HKS
            go_wp2_with fail
            refine (equalIntT _ _ _ _ _ _ _ _ _ w5 x4 x5 hb2).mono ?_
            rintro e w6 ⟨rfl, hd⟩
            go_wp2
            go_ret
            exact ⟨by simp, g05.trans (hd.below _)⟩
  · have h2 : ¬ (l0 : Int) < a1 := by omega
    by_cases hcq : c0 = 0
    · have hcq3 := hcq.symm
      subst hcq3
      clear hcq
      obtain ⟨F1, hF1⟩ : ∃ F, (zz0.take 0).flatten = F := ⟨_, rfl⟩
      obtain ⟨F2, hF2⟩ : ∃ F, (zz0.drop 0).flatten = F := ⟨_, rfl⟩
      obtain ⟨n1, hn1⟩ : ∃ n, F1.length = n := ⟨_, rfl⟩
      obtain ⟨n2, hn2⟩ : ∃ n, F2.length = n := ⟨_, rfl⟩
      have hb1 : n1 * 8 ≤ 140737488351232 := by rw [← hn1, ← hF1]; exact HT.out 0
      have hb3 : n2 * 8 ≤ 140737488351232 := by rw [← hn2, ← hF2]; exact HD.out 0
      have hpf : ([F1, [], F2] : List (List Int)).flatten = F := by rw [← hF1, ← hF2, parts_flat]; exact HF.out
      have HF1 := hide hF1
      have HF2 := hide hF2
      have HN1 := hide hn1
      have HN2 := hide hn2
      have HPF := hide hpf
      clear hF1 hF2 hn1 hn2 hpf
      go_enter Try.func11, Try.ntmps11
      go_wp2_with fail
      refine (implConcatN _ _ _ (rs0.take 0) (zz0.take 0) F1 n1 HF1.out HN1.out (by omega) hb1 w (by rw [rows_take]; exact r0.takeN (by omega)) (q0.takeN 0)).mono ?_
      rintro e w1 ⟨A1, d1, f1, rfl, own1, g1⟩
      have hs1 := g1.size
      have r1 := (r0.below g1).more hs1
      have q1 := (q0.below g1).more hs1
      go_wp2_with fail
      refine (implConcatN _ _ _ (rs0.drop 0) (zz0.drop 0) F2 n2 HF2.out HN2.out (by omega) hb3 w1 (by rw [rows_drop]; exact Rd.none_ (by omega) (by apply List.drop_eq_nil_of_le; have h1 := r0.1; omega)) (q1.dropN 0)).mono ?_
      rintro e w2 ⟨A2, d2, f2, rfl, own2, g2⟩
      have hs2 := g2.size
      have g02 : Below w.heap.size w w2 := g1.trans (g2.mono hs1)
      have hs02 := g02.size
      obtain ⟨B2, hB2⟩ : ∃ B2, B2 = w2.heap.size := ⟨_, rfl⟩
      obtain ⟨w3, hw3⟩ : ∃ w3, w3 = w2.alloc (.cells #[.slice A1 n1 d1, .slice none 0 0, .slice A2 n2 d2] 22) := ⟨_, rfl⟩
      have hw3s : w3.heap.size = w2.heap.size + 1 := by rw [hw3]; simp
      have rf : Rd w3 w3.heap.size 1 (some ⟨w2.heap.size, 0, none⟩) 3 (rows [(A1, n1, d1), (none, 0, 0), (A2, n2, d2)]) := by
        rw [hw3s, hw3]; exact Rd.fresh w2 [_, _, _] _ 3 rfl
      have g23 : Below w2.heap.size w2 w3 := by rw [hw3]; exact (Below.refl _ _).alloc (Nat.le_refl _) _
      have hs3 := g23.size
      have qf : RowsRd w3 w3.heap.size [(A1, n1, d1), (none, 0, 0), (A2, n2, d2)] [F1, [], F2] :=
        rows3 ((((Rd.of_own own1).below g2).below (g23.mono hs2)).more (by omega)) Rd.zero (((Rd.of_own own2).below g23).more hs3)
      have g03 : Below w.heap.size w w3 := g02.trans (g23.mono hs02)
      have hs03 := g03.size
      clear hw3s own1 own2
      go_wp2_with fail
      rw [← hw3]
      clear hw3
      refine (implConcatN _ _ _ _ [F1, [], F2] F N HPF.out HN.out (by decide) hb w3 rf qf).mono ?_
      rintro e w4 ⟨A4, d4, f4, rfl, own4, g4⟩
      have hs4 := g4.size
      have g04 : Below w.heap.size w w4 := g03.trans (g4.mono hs03)
      have hs04 := g04.size
      clear rf qf
      go_wp2_with fail
      refine (implConcatN a0 l0 _ rs0 zz0 F N HF.out HN.out (by omega) hb w4 ((r0.below g04).more hs04) ((q0.below g04).more hs04)).mono ?_
      rintro e w5 ⟨A5, d5, f5, rfl, own5, g5⟩
      have hs5 := g5.size
      have g05 : Below w.heap.size w w5 := g04.trans (g5.mono hs04)
      have hs05 := g05.size
      have x4 : Rd w5 w4.heap.size 1 A4 N (ints F) := (Rd.of_own own4).below g5
      have x5 : Rd w5 w5.heap.size 1 A5 N (ints F) := Rd.of_own own5
      have r5 := (r0.below g05)
      have q5 := (q0.below g05)
      clear own4 own5 r1 q1 g1 g2 g02 g23 g03 g4 g04 g5
      go_wp2_with fail
      go_loop [13, 49] (fun s i => ∃ k S : Nat, k ≤ l0 ∧ S ≤ N ∧ i = .int .i64 k ∧ s = .int .i64 S ∧ Hid ((zz0.take k).flatten.length = S)) (fun _ i => l0 - (intOf i).toNat)
      case atStart => exact ⟨0, 0, Nat.zero_le _, Nat.zero_le _, rfl, rfl, by simp [Hid]⟩
      case round =>
        obtain ⟨k, S, hk, hS, rfl, rfl, HKS⟩ := hrel
        by_cases hlt : k < l0
        · obtain ⟨b, off, A', m, c', z, rfl, hbb, hrk, hzk, hcell, hrd⟩ := q5.at_ r5 hlt
          have hzl : z.length = m := by have := hrd.1; simpa using this
          have hlen : (zz0.take (k + 1)).flatten.length = S + m := by rw [flatten_snoc hzk.out, List.length_append, HKS.out, hzl]
          have hsm : S + m ≤ N := by rw [← hlen]; exact HLE.out (k + 1)
          have HLEN := hide hlen
          clear hlen hzl
          go_wp2
          go_round
          case rel => exact ⟨k + 1, S + m, by omega, by omega, by go_num, by go_num, HLEN⟩
          case measure => simp [intOf]; omega
        · obtain rfl : k = l0 := by omega
          have hSN : S = N := by
            have h := HKS.out
            rw [List.take_of_length_le (by rw [HL.out]; exact Nat.le_refl _)] at h
            rw [← h, HF.out, HN.out]
          subst hSN
          have hee : ((S : Int) == (S : Int)) = true := by simp
          clear HKS
          go_wp2_with fail
          refine (equalIntT _ _ _ _ _ _ _ _ _ w5 x4 x5 hb2).mono ?_
          rintro e w6 ⟨rfl, hd⟩
          go_wp2
          go_ret
          exact ⟨by simp, g05.trans (hd.below _)⟩
    · have hcq2 : 0 < c0 := by omega
      obtain ⟨F1, hF1⟩ : ∃ F, (zz0.take 0).flatten = F := ⟨_, rfl⟩
      obtain ⟨F2, hF2⟩ : ∃ F, (zz0.drop 0).flatten = F := ⟨_, rfl⟩
      obtain ⟨n1, hn1⟩ : ∃ n, F1.length = n := ⟨_, rfl⟩
      obtain ⟨n2, hn2⟩ : ∃ n, F2.length = n := ⟨_, rfl⟩
      have hb1 : n1 * 8 ≤ 140737488351232 := by rw [← hn1, ← hF1]; exact HT.out 0
      have hb3 : n2 * 8 ≤ 140737488351232 := by rw [← hn2, ← hF2]; exact HD.out 0
      have hpf : ([F1, [], F2] : List (List Int)).flatten = F := by rw [← hF1, ← hF2, parts_flat]; exact HF.out
      have HF1 := hide hF1
      have HF2 := hide hF2
      have HN1 := hide hn1
      have HN2 := hide hn2
      have HPF := hide hpf
      clear hF1 hF2 hn1 hn2 hpf
      go_enter Try.func11, Try.ntmps11
      go_wp2_with fail
      refine (implConcatN _ _ _ (rs0.take 0) (zz0.take 0) F1 n1 HF1.out HN1.out (by omega) hb1 w (by rw [rows_take]; exact r0.takeN (by omega)) (q0.takeN 0)).mono ?_
      rintro e w1 ⟨A1, d1, f1, rfl, own1, g1⟩
      have hs1 := g1.size
      have r1 := (r0.below g1).more hs1
      have q1 := (q0.below g1).more hs1
      go_wp2_with fail
      refine (implConcatN _ _ _ (rs0.drop 0) (zz0.drop 0) F2 n2 HF2.out HN2.out (by omega) hb3 w1 (by rw [rows_drop]; simpa using r1) (q1.dropN 0)).mono ?_
      rintro e w2 ⟨A2, d2, f2, rfl, own2, g2⟩
      have hs2 := g2.size
      have g02 : Below w.heap.size w w2 := g1.trans (g2.mono hs1)
      have hs02 := g02.size
      obtain ⟨B2, hB2⟩ : ∃ B2, B2 = w2.heap.size := ⟨_, rfl⟩
      obtain ⟨w3, hw3⟩ : ∃ w3, w3 = w2.alloc (.cells #[.slice A1 n1 d1, .slice none 0 0, .slice A2 n2 d2] 22) := ⟨_, rfl⟩
      have hw3s : w3.heap.size = w2.heap.size + 1 := by rw [hw3]; simp
      have rf : Rd w3 w3.heap.size 1 (some ⟨w2.heap.size, 0, none⟩) 3 (rows [(A1, n1, d1), (none, 0, 0), (A2, n2, d2)]) := by
        rw [hw3s, hw3]; exact Rd.fresh w2 [_, _, _] _ 3 rfl
      have g23 : Below w2.heap.size w2 w3 := by rw [hw3]; exact (Below.refl _ _).alloc (Nat.le_refl _) _
      have hs3 := g23.size
      have qf : RowsRd w3 w3.heap.size [(A1, n1, d1), (none, 0, 0), (A2, n2, d2)] [F1, [], F2] :=
        rows3 ((((Rd.of_own own1).below g2).below (g23.mono hs2)).more (by omega)) Rd.zero (((Rd.of_own own2).below g23).more hs3)
      have g03 : Below w.heap.size w w3 := g02.trans (g23.mono hs02)
      have hs03 := g03.size
      clear hw3s own1 own2
      go_wp2_with fail
      rw [← hw3]
      clear hw3
      refine (implConcatN _ _ _ _ [F1, [], F2] F N HPF.out HN.out (by decide) hb w3 rf qf).mono ?_
      rintro e w4 ⟨A4, d4, f4, rfl, own4, g4⟩
      have hs4 := g4.size
      have g04 : Below w.heap.size w w4 := g03.trans (g4.mono hs03)
      have hs04 := g04.size
      clear rf qf
      go_wp2_with fail
      refine (implConcatN a0 l0 _ rs0 zz0 F N HF.out HN.out (by omega) hb w4 ((r0.below g04).more hs04) ((q0.below g04).more hs04)).mono ?_
      rintro e w5 ⟨A5, d5, f5, rfl, own5, g5⟩
      have hs5 := g5.size
      have g05 : Below w.heap.size w w5 := g04.trans (g5.mono hs04)
      have hs05 := g05.size
      have x4 : Rd w5 w4.heap.size 1 A4 N (ints F) := (Rd.of_own own4).below g5
      have x5 : Rd w5 w5.heap.size 1 A5 N (ints F) := Rd.of_own own5
      have r5 := (r0.below g05)
      have q5 := (q0.below g05)
      clear own4 own5 r1 q1 g1 g2 g02 g23 g03 g4 g04 g5
      go_wp2_with fail
      go_loop [13, 49] (fun s i => ∃ k S : Nat, k ≤ l0 ∧ S ≤ N ∧ i = .int .i64 k ∧ s = .int .i64 S ∧ Hid ((zz0.take k).flatten.length = S)) (fun _ i => l0 - (intOf i).toNat)
      case atStart => exact ⟨0, 0, Nat.zero_le _, Nat.zero_le _, rfl, rfl, by simp [Hid]⟩
      case round =>
        obtain ⟨k, S, hk, hS, rfl, rfl, HKS⟩ := hrel
        by_cases hlt : k < l0
        · obtain ⟨b, off, A', m, c', z, rfl, hbb, hrk, hzk, hcell, hrd⟩ := q5.at_ r5 hlt
          have hzl : z.length = m := by have := hrd.1; simpa using this
          have hlen : (zz0.take (k + 1)).flatten.length = S + m := by rw [flatten_snoc hzk.out, List.length_append, HKS.out, hzl]
          have hsm : S + m ≤ N := by rw [← hlen]; exact HLE.out (k + 1)
          have HLEN := hide hlen
          clear hlen hzl
          go_wp2
          go_round
          case rel => exact ⟨k + 1, S + m, by omega, by omega, by go_num, by go_num, HLEN⟩
          case measure => simp [intOf]; omega
        · obtain rfl : k = l0 := by omega
          have hSN : S = N := by
            have h := HKS.out
            rw [List.take_of_length_le (by rw [HL.out]; exact Nat.le_refl _)] at h
            rw [← h, HF.out, HN.out]
          subst hSN
          have hee : ((S : Int) == (S : Int)) = true := by simp
          clear HKS
          go_wp2_with fail
          refine (equalIntT _ _ _ _ _ _ _ _ _ w5 x4 x5 hb2).mono ?_
          rintro e w6 ⟨rfl, hd⟩
          go_wp2
          go_ret
          exact ⟨by simp, g05.trans (hd.below _)⟩

set_option maxRecDepth 100000 in
theorem lifted (os : Os) (started : os.Started) (H : Type) (enc : TypeId × Value → H) (F : Stop.Interp) :
    ReturnsInHanded {} Try.checked os 11 .any ((Rows.OpenSpec.upto Rows.fnConcatPartsSpec).pre6 enc Try.prog Try.f11 Rows.fnConcatPartsUptoRow.domain false) (((Rows.OpenSpec.upto Rows.fnConcatPartsSpec).at F).post enc Try.prog Try.f11 false true false false) := by
  refine returnsInHanded_of_cond (C := Try.checked) (s := (Rows.OpenSpec.upto Rows.fnConcatPartsSpec)) (k := Rows.uptoSmall) rfl own started (by kernel_rfl) Try.func11
    (OpenSpec.witness (enc := enc) (C := Try.checked) (s := (Rows.OpenSpec.upto Rows.fnConcatPartsSpec)) (k := Rows.uptoSmall) rfl false ⟨#[], #[.slice none 0 0, .int .i64 0], []⟩ 8 (by kernel_rfl) (by kernel_rfl) (by kernel_rfl)
      (x := ([.nil, .lit (.int .i64 0)], [], [])) (by kernel_rfl) rfl (by kernel_rfl)) ?_
  intro W base args ds gs before hval0 hW _ hk0 _
  have hk := bulk_bound hk0
  have hval : ∀ (j : Nat) t v, Try.f11.params[j]? = some t → args[j]? = some v → Value.okWide Try.prog W .any base t v := hval0
  have hW' := hW
  obtain ⟨p, q, hA0, hV, rfl, hfz, hnd⟩ := hW
  have hA : DataW.TrodAll enc Try.prog W 0 (fun _ => true) true Try.f11.params.toList args.toList ds p := hA0
  rw [Try.params11] at hA hval
  obtain ⟨v0, vs0, d0, ds0, p0, q0, hargs, rfl, rfl, h0, rr0⟩ := trodAll_cons hA
  obtain ⟨v1, vs1, d1, ds1, p1, q1, rfl, rfl, rfl, h1, rr1⟩ := trodAll_cons rr0
  obtain ⟨rfl, rfl, rfl⟩ := trodAll_nil rr1
  obtain rfl : args = #[v0, v1] := by cases args; simp_all
  obtain ⟨rfl, rfl⟩ := trodVars_none hV
  have t0 := h0
  have lt0 : ∀ x ∈ p0, x.block < W.heap.size := by obtain ⟨m, hm⟩ := t0; exact DataW.trod_lt m _ _ _ hm
  obtain ⟨a0, l0, c0, rs0, zz0, rfl, k0, m0, r0, q0, u0, s0⟩ := openRows (hval 0 44 v0 rfl rfl) h0
  have t1 := h1
  have lt1 : ∀ x ∈ p1, x.block < W.heap.size := by obtain ⟨m, hm⟩ := t1; exact DataW.trod_lt m _ _ _ hm
  obtain ⟨a1, rfl, hd1, hp1, f1⟩ := open_int Try.underlying3 (hval 1 3 v1 rfl rfl) h1
  have u1 := bulk_one d1
  simp only [List.cons_append, List.nil_append, List.append_nil, Rows.uptoBulkAll] at hk
  have bu : (l0 + zz0.flatten.length) ≤ 1048576 := by omega
  refine (walk a0 l0 c0 rs0 zz0 a1 W k0 m0 r0 q0 f1 bu).mono fun e W' ⟨he, bel⟩ => ?_
  subst he
  exact ⟨_, rfl, _, _, _, [], _, [], hW', trodAll_mk1 (shut_bool Try.underlying4 _), (trodAll_cons_mk (Below.trod laidOut (by kernel_rfl) (of_decide_eq_true (by kernel_rfl)) t0 bel lt0) (trodAll_cons_mk (Below.trod laidOut (by kernel_rfl) (of_decide_eq_true (by kernel_rfl)) t1 bel lt1) trodAll_mk0)), rfl, bel.frame _, fun h => by cases h⟩

theorem over : Rows.fnConcatPartsUptoRow.holds Try.pinned (Rows.OpenSpec.upto Rows.fnConcatPartsSpec) :=
  OpenClaim.holds_of_cond 11 Try.f11 rfl rfl rfl rfl rfl rfl rfl ⟨rfl, rfl, rfl, rfl, rfl⟩ rfl rfl rfl rfl rfl (by kernel_rfl) Try.func11 (by kernel_rfl)
    (of_decide_eq_true (by kernel_rfl)) (by unfold Func.isWrapper; first | (rw [if_pos (by decide +kernel)]; kernel_rfl) | (rw [if_neg (by decide +kernel)]; exact ⟨rfl, rfl⟩))
    (fun os started H enc _ F => lifted os started H enc F)

/-- the given statement -/
theorem proved : Rows.FnConcatPartsUptoSaid := over
#print axioms proved
end Go.Proofs.Ytbgkchjephioiaa.fnConcatParts
