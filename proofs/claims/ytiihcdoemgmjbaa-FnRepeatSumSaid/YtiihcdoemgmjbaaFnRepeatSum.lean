/-
  FnRepeatSum: the law returns true at every input, and changes nothing that was there.
-/
import Derived.ProofKit
import Derived.OpenShut
import Derived.JoinedCond
import Derived.Deep.CondSized
import Derived.SizedLaws
import Derived.WalkKit
import Derived.WalkLawsBesides
import Derived.Outline
import Derived.Deep.DeepMust
import Derived.Test.YtiihcdoemgmjbaaOpen
import Derived.Test.YtiihcdoemgmjbaaRepI
import Derived.Test.YtiihcdoemgmjbaaSpec
import Derived.Test.YtiihcdoemgmjbaaCon
import Derived.Test.YtiihcdoemgmjbaaRowsL
namespace Go.Proofs.Ytiihcdoemgmjbaa.fnRepeatSum
open Go.ChangeShapes Go.WideShapes Go.ChangeAt Go.RowKit
set_option linter.unusedVariables false
set_option linter.unusedSimpArgs false

theorem rep_rep {α : Type} (a b : Nat) (l : List α) : rep b (rep a l) = rep (a * b) l := by
  induction b with
  | zero => simp [rep]
  | succ b ih => rw [rep_succ, ih, Nat.mul_succ, rep_add]
theorem rows2 {w : World} {B : Nat} {r1 r2 : Option Addr × Nat × Nat} {z1 z2 : List Int} (h1 : Rd w B 1 r1.1 r1.2.1 (ints z1)) (h2 : Rd w B 1 r2.1 r2.2.1 (ints z2)) : RowsRd w B [r1, r2] [z1, z2] := by
  refine ⟨rfl, fun i r z hr hz => ?_⟩
  match i, hr, hz with
  | 0, hr, hz => simp at hr hz; subst hr; subst hz; exact h1
  | 1, hr, hz => simp at hr hz; subst hr; subst hz; exact h2
set_option maxRecDepth 100000 in
set_option maxHeartbeats 4000000 in
theorem walk (a0 : Option Addr) (l0 c0 : Nat) (z0 : List Int) (a1 : Int) (a2 : Int) (w : World) (k0 : l0 ≤ c0) (m0 : c0 ≤ maxLen) (r0 : Rd w w.heap.size 1 a0 l0 (ints z0)) (f0 : ∀ x ∈ z0, (Lit.int .i64 x).wf = true) (f1 : (Lit.int .i64 a1).wf = true) (f2 : (Lit.int .i64 a2).wf = true) (b0 : l0 * 8 ≤ 140737488351232) :
    Calls Try.prog 14 #[.slice a0 l0 c0, .int .i64 a1, .int .i64 a2] w fun e w' => e = .returned (.bool true) ∧ Below w.heap.size w w' := by
  have hlen : l0 ≤ 17592186043904 := by omega
  obtain ⟨hlo, hhi⟩ := bounds_i64 f1
  obtain ⟨hlo2, hhi2⟩ := bounds_i64 f2
  clear f1 f2
  by_cases t1 : a1 < 0
  · have d1 : decide (a1 < 0) = true := by simpa using t1
    go_enter Try.func14, Try.ntmps14
    go_wp2_with fail
    go_ret
    exact ⟨by simp, Below.refl _ _⟩
  have d1 : decide (a1 < 0) = false := by simpa using t1
  by_cases t2 : a2 < 0
  · have d2 : decide (a2 < 0) = true := by simpa using t2
    go_enter Try.func14, Try.ntmps14
    go_wp2_with fail
    go_ret
    exact ⟨by simp, Below.refl _ _⟩
  have d2 : decide (a2 < 0) = false := by simpa using t2
  by_cases t3 : 200 < a1
  · have d3 : decide (200 < a1) = true := by simpa using t3
    go_enter Try.func14, Try.ntmps14
    go_wp2_with fail
    go_ret
    exact ⟨by simp, Below.refl _ _⟩
  have d3 : decide (200 < a1) = false := by simpa using t3
  by_cases t4 : 200 < a2
  · have d4 : decide (200 < a2) = true := by simpa using t4
    go_enter Try.func14, Try.ntmps14
    go_wp2_with fail
    go_ret
    exact ⟨by simp, Below.refl _ _⟩
  have d4 : decide (200 < a2) = false := by simpa using t4
  by_cases t5 : 1000 < l0
  · have d5 : decide ((1000 : Int) < (l0 : Int)) = true := by simp; omega
    have d5b : (1000 : Int) < (l0 : Int) := by omega
    go_enter Try.func14, Try.ntmps14
    go_wp2_with fail
    go_ret
    exact ⟨by simp, Below.refl _ _⟩
  have d5 : decide ((1000 : Int) < (l0 : Int)) = false := by simp; omega
  have d5b : ¬ (1000 : Int) < (l0 : Int) := by omega
  obtain ⟨a, rfl⟩ : ∃ a : Nat, a1 = (a : Int) := ⟨a1.toNat, by omega⟩
  obtain ⟨b, rfl⟩ : ∃ b : Nat, a2 = (b : Int) := ⟨a2.toNat, by omega⟩
  have ha : a ≤ 200 := by omega
  have hb : b ≤ 200 := by omega
  have hl : l0 ≤ 1000 := by omega
  obtain ⟨Na, hNa⟩ : ∃ N, N = a * l0 := ⟨_, rfl⟩
  obtain ⟨Nb, hNb⟩ : ∃ N, N = b * l0 := ⟨_, rfl⟩
  obtain ⟨Nab, hNab⟩ : ∃ N, N = b * Na := ⟨_, rfl⟩
  obtain ⟨s, hs⟩ : ∃ s, s = a + b := ⟨_, rfl⟩
  obtain ⟨p, hp⟩ : ∃ p, p = a * b := ⟨_, rfl⟩
  obtain ⟨Ns, hNs⟩ : ∃ N, N = s * l0 := ⟨_, rfl⟩
  have bNa : Na ≤ 200000 := by have := Nat.mul_le_mul ha hl; omega
  have bNb : Nb ≤ 200000 := by have := Nat.mul_le_mul hb hl; omega
  have bNab : Nab ≤ 40000000 := by have := Nat.mul_le_mul hb bNa; omega
  have bs : s ≤ 400 := by omega
  have bp : p ≤ 40000 := by have := Nat.mul_le_mul ha hb; omega
  have bNs : Ns ≤ 400000 := by have := Nat.mul_le_mul bs hl; omega
  have hNp : Nab = p * l0 := by rw [hNab, hNa, hp, ← Nat.mul_assoc, Nat.mul_comm b a]
  have i1 : (l0 : Int) * (a : Int) = (Na : Int) := by rw [hNa, Int.mul_comm]; simp
  have i2 : (Na : Int) * (b : Int) = (Nab : Int) := by rw [hNab, Int.mul_comm]; simp
  have i3 : (a : Int) + (b : Int) = (s : Int) := by rw [hs]; simp
  have i4 : (a : Int) * (b : Int) = (p : Int) := by rw [hp]; simp
  have i5 : (l0 : Int) * (s : Int) = (Ns : Int) := by rw [hNs, Int.mul_comm]; simp
  have v1 : IntKind.i64.wrap (Na : Int) = (Na : Int) := IntWalk.i64_in _ (by omega)
  have v2 : IntKind.i64.wrap (Nab : Int) = (Nab : Int) := IntWalk.i64_in _ (by omega)
  have v3 : IntKind.i64.wrap (s : Int) = (s : Int) := IntWalk.i64_in _ (by omega)
  have v4 : IntKind.i64.wrap (p : Int) = (p : Int) := IntWalk.i64_in _ (by omega)
  have v5 : IntKind.i64.wrap (Ns : Int) = (Ns : Int) := IntWalk.i64_in _ (by omega)
  have hz : z0.length = l0 := by have := r0.1; simpa using this
  have hfl : ([rep a z0, rep b z0] : List (List Int)).flatten = rep s z0 := by rw [hs, rep_add]; simp
  have hfn : (rep s z0).length = Ns := by rw [rep_length, hNs, hz]
  have hpr : rep b (rep a z0) = rep p z0 := by rw [rep_rep, hp]
  have HNa := hide hNa
  have HNb := hide hNb
  have HNab := hide hNab
  have HNs := hide hNs
  have HNp := hide hNp
  have HF := hide hfl
  have HFN := hide hfn
  have HPR := hide hpr
  clear hNa hNb hNab hNs hs hp hNp hfl hfn hpr hz t1 t2 t3 t4 t5
  by_cases hbig : 65536 < Nab
  · have hbi : (65536 : Int) < (Nab : Int) := by omega
    go_enter Try.func14, Try.ntmps14
    go_wp2_with fail
    go_ret
    exact ⟨by simp, Below.refl _ _⟩
  have hbi : decide ((65536 : Int) < (Nab : Int)) = false := by simp; omega
  have hbi2 : ¬ ((65536 : Int) < (Nab : Int)) := by omega
  have q1 : ((Ns : Int) == (Ns : Int)) = true := by simp
  have q2 : ((Nab : Int) == (Nab : Int)) = true := by simp
  have c1 : Na * 8 ≤ 140737488351232 := by omega
  have c2 : Nb * 8 ≤ 140737488351232 := by omega
  have c3 : Ns * 8 ≤ 140737488351232 := by omega
  have c4 : Nab * 8 ≤ 140737488351232 := by omega
  go_enter Try.func14, Try.ntmps14
  go_wp2_with fail
  refine (implRepeat a0 l0 c0 z0 a Na HNa.out c1 b0 (by omega) w r0).mono ?_
  rintro e w1 ⟨A1, rfl, own1, g1⟩
  have hs1 := g1.size
  go_wp2_with fail
  refine (implRepeat a0 l0 c0 z0 b Nb HNb.out c2 b0 (by omega) w1 ((r0.below g1).more hs1)).mono ?_
  rintro e w2 ⟨A2, rfl, own2, g2⟩
  have hs2 := g2.size
  have g02 := g1.trans (g2.mono hs1)
  have hs02 := g02.size
  go_wp2_with fail
  refine (implRepeat a0 l0 c0 z0 s Ns HNs.out c3 b0 (by omega) w2 ((r0.below g02).more hs02)).mono ?_
  rintro e w3 ⟨A3, rfl, own3, g3⟩
  have hs3 := g3.size
  have g03 := g02.trans (g3.mono hs02)
  have hs03 := g03.size
  go_wp2_with fail
  refine (implRepeat a0 l0 c0 z0 p Nab HNp.out c4 b0 (by omega) w3 ((r0.below g03).more hs03)).mono ?_
  rintro e w4 ⟨A4, rfl, own4, g4⟩
  have hs4 := g4.size
  have g04 := g03.trans (g4.mono hs03)
  have hs04 := g04.size
  have x1 : Rd w4 w1.heap.size 1 A1 Na (ints (rep a z0)) := (((Rd.of_own own1).below g2).below (g3.mono (by omega))).below (g4.mono (by omega))
  have x2 : Rd w4 w2.heap.size 1 A2 Nb (ints (rep b z0)) := ((Rd.of_own own2).below g3).below (g4.mono (by omega))
  have x3 : Rd w4 w3.heap.size 1 A3 Ns (ints (rep s z0)) := (Rd.of_own own3).below g4
  have x4 : Rd w4 w4.heap.size 1 A4 Nab (ints (rep p z0)) := Rd.of_own own4
  clear own1 own2 own3 own4
  go_wp2_with fail
  refine (implRepeat A1 Na Na (rep a z0) b Nab HNab.out c4 c1 (by omega) w4 (x1.more (by omega))).mono ?_
  rintro e w5 ⟨A5, rfl, own5, g5⟩
  rw [HPR.out] at own5
  have hs5 := g5.size
  have g05 := g04.trans (g5.mono hs04)
  have hs05 := g05.size
  obtain ⟨w6, hw6⟩ : ∃ w6, w6 = w5.alloc (.cells #[.slice A1 Na Na, .slice A2 Nb Nb] 22) := ⟨_, rfl⟩
  have hw6s : w6.heap.size = w5.heap.size + 1 := by rw [hw6]; simp
  have rf : Rd w6 w6.heap.size 1 (some ⟨w5.heap.size, 0, none⟩) 2 (rows [(A1, Na, Na), (A2, Nb, Nb)]) := by
    rw [hw6s, hw6]; exact Rd.fresh w5 [_, _] _ 2 rfl
  have g56 : Below w5.heap.size w5 w6 := by rw [hw6]; exact (Below.refl _ _).alloc (Nat.le_refl _) _
  have hs6 := g56.size
  have g06 := g05.trans (g56.mono hs05)
  have hs06 := g06.size
  have g46 : Below w4.heap.size w4 w6 := g5.trans (g56.mono hs5)
  have qf : RowsRd w6 w6.heap.size [(A1, Na, Na), (A2, Nb, Nb)] [rep a z0, rep b z0] := rows2 ((x1.below (g46.mono (by omega))).more (by omega)) ((x2.below (g46.mono (by omega))).more (by omega))
  clear hw6s
  go_wp2_with fail
  rw [← hw6]
  clear hw6
  refine (implConcatN _ _ _ _ [rep a z0, rep b z0] (rep s z0) Ns HF.out HFN.out (by decide) c3 w6 rf qf).mono ?_
  rintro e w7 ⟨A7, d7, f7, rfl, own7, g7⟩
  have hs7 := g7.size
  have g07 := g06.trans (g7.mono hs06)
  have g47 : Below w4.heap.size w4 w7 := g46.trans (g7.mono (by omega))
  have y3 := (x3.below (g47.mono (by omega)))
  have y4 := (x4.below g47)
  have y5 : Rd w7 w5.heap.size 1 A5 Nab (ints (rep p z0)) := ((Rd.of_own own5).below g56).below (g7.mono (by omega))
  have y7 : Rd w7 w7.heap.size 1 A7 Ns (ints (rep s z0)) := Rd.of_own own7
  clear x1 x2 x3 x4 own5 own7 rf qf
  go_wp2_with fail
  refine (equalIntT _ _ _ _ _ _ _ _ _ w7 y3 y7 (by omega)).mono ?_
  rintro e w8 ⟨rfl, hd⟩
  go_wp2_with fail
  refine (equalIntT _ _ _ _ _ _ _ _ _ w8 (y4.ofDrew hd) (y5.ofDrew hd) (by omega)).mono ?_
  rintro e w9 ⟨rfl, hd9⟩
  go_wp2_with fail
  go_ret
  exact ⟨by simp, (g07.trans (hd.below _)).trans (hd9.below _)⟩

set_option maxRecDepth 100000 in
theorem lifted (os : Os) (started : os.Started) (H : Type) (enc : TypeId × Value → H) :
    ReturnsInHanded {} Try.checked os 14 .any (Rows.fnRepeatSumSpec.pre6 enc Try.prog Try.f14 Rows.fnRepeatSumRow.domain false) (Rows.fnRepeatSumSpec.post enc Try.prog Try.f14 false true false false) := by
  refine returnsInHanded_of_change_sized (C := Try.checked) own started (by kernel_rfl) Try.func14
    (ChangeSpec.witness6 (enc := enc) (C := Try.checked) false ⟨#[], #[.slice none 0 0, .int .i64 0, .int .i64 0], []⟩ 8 (by kernel_rfl) (by kernel_rfl) (by kernel_rfl) (by kernel_rfl)) ?_
  intro W base args ds gs before hval0 hW _ hsz0 _
  have hsz : (DataW.weightsEach Try.prog (Try.f14.params.toList ++ Rows.fnRepeatSumSpec.plain.varTypes Try.prog) (ds ++ gs)).all (· ≤ reachBytes) = true := hsz0
  have hval : ∀ (j : Nat) t v, Try.f14.params[j]? = some t → args[j]? = some v → Value.okWide Try.prog W .any base t v := hval0
  have hW' := hW
  obtain ⟨p, q, hA0, hV, rfl, hfz, hnd⟩ := hW
  have hA : DataW.TrodAll enc Try.prog W 0 (fun _ => true) true Try.f14.params.toList args.toList ds p := hA0
  rw [Try.params14] at hA hval hsz
  obtain ⟨v0, vs0, d0, ds0, p0, q0, hargs, rfl, rfl, h0, rr0⟩ := trodAll_cons hA
  obtain ⟨v1, vs1, d1, ds1, p1, q1, rfl, rfl, rfl, h1, rr1⟩ := trodAll_cons rr0
  obtain ⟨v2, vs2, d2, ds2, p2, q2, rfl, rfl, rfl, h2, rr2⟩ := trodAll_cons rr1
  obtain ⟨rfl, rfl, rfl⟩ := trodAll_nil rr2
  obtain rfl : args = #[v0, v1, v2] := by cases args; simp_all
  obtain ⟨rfl, rfl⟩ := trodVars_none hV
  have t0 := h0
  have lt0 : ∀ x ∈ p0, x.block < W.heap.size := by obtain ⟨m, hm⟩ := t0; exact DataW.trod_lt m _ _ _ hm
  obtain ⟨a0, l0, c0, z0, rfl, k0, m0, r0, f0, u0, s0⟩ := openInts (hval 0 22 v0 rfl rfl) h0
  have b0 := s0 (sized_at hsz 0 rfl rfl)
  have t1 := h1
  have lt1 : ∀ x ∈ p1, x.block < W.heap.size := by obtain ⟨m, hm⟩ := t1; exact DataW.trod_lt m _ _ _ hm
  obtain ⟨a1, rfl, hd1, hp1, f1⟩ := open_int Try.underlying3 (hval 1 3 v1 rfl rfl) h1
  have u1 := bulk_one d1
  have t2 := h2
  have lt2 : ∀ x ∈ p2, x.block < W.heap.size := by obtain ⟨m, hm⟩ := t2; exact DataW.trod_lt m _ _ _ hm
  obtain ⟨a2, rfl, hd2, hp2, f2⟩ := open_int Try.underlying3 (hval 2 3 v2 rfl rfl) h2
  have u2 := bulk_one d2
  refine (walk a0 l0 c0 z0 a1 a2 W k0 m0 r0 f0 f1 f2 b0).mono fun e W' ⟨he, bel⟩ => ?_
  subst he
  exact ⟨_, rfl, _, _, _, [], _, [], hW', trodAll_mk1 (shut_bool Try.underlying4 _), (trodAll_cons_mk (Below.trod laidOut (by kernel_rfl) (of_decide_eq_true (by kernel_rfl)) t0 bel lt0) (trodAll_cons_mk (Below.trod laidOut (by kernel_rfl) (of_decide_eq_true (by kernel_rfl)) t1 bel lt1) (trodAll_cons_mk (Below.trod laidOut (by kernel_rfl) (of_decide_eq_true (by kernel_rfl)) t2 bel lt2) trodAll_mk0))), rfl, bel.frame _, fun h => by cases h⟩

theorem over : Rows.fnRepeatSumRow.holds Try.pinned (OpenSpec.ofChange Rows.fnRepeatSumSpec) :=
  OpenClaim.holds_of_wide 14 Try.f14 rfl rfl rfl rfl rfl rfl rfl ⟨rfl, rfl, rfl, rfl, rfl⟩ rfl rfl rfl rfl rfl (by kernel_rfl) Try.func14 (by kernel_rfl)
    (of_decide_eq_true (by kernel_rfl)) (by unfold Func.isWrapper; first | (rw [if_pos (by decide +kernel)]; kernel_rfl) | (rw [if_neg (by decide +kernel)]; exact ⟨rfl, rfl⟩))
    (fun os started H enc _ => lifted os started H enc)

/-- the given statement -/
theorem proved : Rows.FnRepeatSumSaid := over
#print axioms proved
end Go.Proofs.Ytiihcdoemgmjbaa.fnRepeatSum
