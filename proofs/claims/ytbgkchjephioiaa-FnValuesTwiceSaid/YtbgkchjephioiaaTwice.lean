/-
  impl.ValuesTwice: one iterator, walked twice.
-/
import Derived.Maps.AppendAt
import Derived.Outline
import Derived.Deep.DeepMust
import Derived.RegionTactic
import Derived.RegionIn
import Derived.Test.YtbgkchjephioiaaVal
namespace Go.Proofs.Ytbgkchjephioiaa
open Go.RowKit Go.Shelf
set_option linter.unusedVariables false
set_option linter.unusedSimpArgs false
attribute [local go_sem] Oper.semAt_some

theorem boxed_kept {W w2 : World} {B B' : Nat} {t' e : TypeId} {u v v' : Value} {n₀ size k : Nat} {xs : List Value} {o : Obj} (h : Boxed W B' t' u) (hte : t' ≠ e) (hne : B' ≠ B) (hrow : W.ownsRow n₀ e size v k xs) (hg : (W.alloc o).grownBy w2 v.ownBlock) : Boxed (w2.setCell ⟨B, 0, none⟩ v') B' t' u :=
  ((h.alloc o).kept hg (h.not_row hte hrow)).other hne v'
/-- an append to a row of its own, whose box lies below the row's floor -/
theorem boxed_appended {W w1 : World} {m n₀ B : Nat} {t e : TypeId} {size : Nat} {v v' : Value} {k j : Nat} {xs ys : List Value} {tmp : Obj}
    (hv : Boxed W B t v) (hte : t ≠ e) (hrow : W.ownsRow n₀ e size v k xs) (hn₀ : n₀ ≤ W.heap.size) (hB : m ≤ B) (hm : m ≤ n₀)
    (hown' : w1.ownsRow n₀ e size v' j ys) (hgrow : (W.alloc tmp).grownBy w1 v.ownBlock) :
    Boxed w1 B t v ∧ Boxed (w1.setCell ⟨B, 0, none⟩ v') B t v' ∧ (w1.setCell ⟨B, 0, none⟩ v').ownsRow n₀ e size v' j ys ∧ KeepsOthers W (w1.setCell ⟨B, 0, none⟩ v') ∧ Below m W (w1.setCell ⟨B, 0, none⟩ v') := by
  have hv1 : Boxed w1 B t v := (hv.alloc tmp).kept hgrow (hv.not_row hte hrow)
  refine ⟨hv1, hv1.set v', hown'.kept (grownBy_setCell' w1 B v') (.inr (hv1.not_row hte hown').symm), ?_, ?_⟩
  · refine ((KeepsOthers.alloc W tmp).trans (KeepsOthers.of_grownBy hgrow fun j o ej hj => ?_)).trans (KeepsOthers.setCell _ _ _)
    rcases (hrow.alloc tmp).2 with ⟨rfl, _⟩ | ⟨g, cap, cur, rfl, _, hgb, _⟩
    · simp [Value.ownBlock] at ej
    · obtain rfl : g = j := by simpa [Value.ownBlock] using ej
      rw [hgb] at hj; cases hj; rfl
  · refine (((Below.refl m W).alloc (by omega) tmp).grown hgrow (by simp; omega) fun j ej => ?_).setCell (p := ⟨B, 0, none⟩) hB v'
    rcases hrow.2 with ⟨rfl, _⟩ | ⟨g, cap, cur, rfl, hb, _, _⟩
    · simp [Value.ownBlock] at ej
    · obtain rfl : g = j := by simpa [Value.ownBlock] using ej
      omega
theorem ownFrom_block {β : Type} {B D : Nat} {o : Obj} (hD : D < B) : OwnFrom B (fun (_ : β) W => W.heap[D]? = some o) :=
  fun _ X Y row hs hg hr => (hg.block D (Array.getElem?_eq_some_iff.1 hs).1 (fun e => by have := (hr D e.symm).1; omega)).trans hs

/-- a row stays where another one, that lies above it, is appended to and stored into its box -/
theorem row_kept {X w2 : World} {base base2 B : Nat} {t e : TypeId} {v1 v2 v' : Value} {n1 n2 : Nat} {xs ys : List Value} {o : Obj} (h : X.ownsRow base e 1 v1 n1 xs) (hlt : ∀ k, v1.ownBlock = some k → k < base2) (h2 : X.ownsRow base2 e 1 v2 n2 ys) (hg : (X.alloc o).grownBy w2 v2.ownBlock) (hb : Boxed X B t v2) {te : t ≠ e} : (w2.setCell ⟨B, 0, none⟩ v').ownsRow base e 1 v1 n1 xs := by
  have h3 : w2.ownsRow base e 1 v1 n1 xs := (h.alloc o).kept hg (by
    cases hv : v1.ownBlock with
    | none => exact .inl rfl
    | some k => exact .inr (fun e => by have h4 := hlt k hv; have h5 := (h2.lt k e.symm).1; omega))
  have hb2 : Boxed w2 B t v2 := (hb.alloc o).kept hg (hb.not_row te h2)
  exact h3.kept (grownBy_setCell' w2 B v') (.inr (hb2.not_row te h3).symm)

theorem restored {X w1 : World} {floor B1 B2 b1 b2 n1 n2 D D2 : Nat} {t e : TypeId} {v1 v2 : Value} {xs ys : List Value} {o o2 : List Deferred} (h1 : floor ≤ B1) (h2 : floor ≤ B2) (hne : B1 ≠ B2) (te : t ≠ e) (hv1 : Boxed X B1 t v1) (hv2 : Boxed X B2 t v2) (hr1 : X.ownsRow b1 e 1 v1 n1 xs) (hr2 : X.ownsRow b2 e 1 v2 n2 ys) (hD : X.heap[D]? = some (.deferred (some o))) (hD2 : X.heap[D2]? = some (.deferred (some o2))) (hB : Below floor w1 X) :
    Boxed (((X.setCell ⟨B1, 0, none⟩ v1).setCell ⟨B2, 0, none⟩ v2).drew) B1 t v1 ∧ Boxed (((X.setCell ⟨B1, 0, none⟩ v1).setCell ⟨B2, 0, none⟩ v2).drew) B2 t v2 ∧ (((X.setCell ⟨B1, 0, none⟩ v1).setCell ⟨B2, 0, none⟩ v2).drew).ownsRow b1 e 1 v1 n1 xs ∧ (((X.setCell ⟨B1, 0, none⟩ v1).setCell ⟨B2, 0, none⟩ v2).drew).ownsRow b2 e 1 v2 n2 ys ∧
      (((X.setCell ⟨B1, 0, none⟩ v1).setCell ⟨B2, 0, none⟩ v2).drew).heap[D]? = some (.deferred (some o)) ∧ (((X.setCell ⟨B1, 0, none⟩ v1).setCell ⟨B2, 0, none⟩ v2).drew).heap[D2]? = some (.deferred (some o2)) ∧ Below floor w1 (((X.setCell ⟨B1, 0, none⟩ v1).setCell ⟨B2, 0, none⟩ v2).drew) := by
  have a1 := hv1.set v1
  have a2 := hv2.other (Ne.symm hne) v1
  have a3 := hr1.kept (grownBy_setCell' X B1 v1) (.inr (hv1.not_row te hr1).symm)
  have a4 := hr2.kept (grownBy_setCell' X B1 v1) (.inr (hv1.not_row te hr2).symm)
  have k := (KeepsOthers.setCell X ⟨B1, 0, none⟩ v1).trans (KeepsOthers.setCell _ ⟨B2, 0, none⟩ v2)
  have c3 := a3.kept (grownBy_setCell' (X.setCell ⟨B1, 0, none⟩ v1) B2 v2) (.inr (a2.not_row te a3).symm)
  have c4 := a4.kept (grownBy_setCell' (X.setCell ⟨B1, 0, none⟩ v1) B2 v2) (.inr (a2.not_row te a4).symm)
  exact ⟨a1.other hne v2, a2.set v2, c3, c4, k.same D _ hD rfl, k.same D2 _ hD2 rfl, ((hB.setCell (p := ⟨B1, 0, none⟩) h1 v1).setCell (p := ⟨B2, 0, none⟩) h2 v2).drew⟩
theorem boxed_put {X : World} {B l : Nat} {t : TypeId} {v : Value} {o : Obj} (o' : Obj) (h : Boxed X B t v) (hl : X.heap[l]? = some o) (ho : o.isCells = false) : Boxed (X.putObj l o') B t v :=
  h.kept (grownBy_putObj' X l o') (fun e => by cases e; rw [show X.heap[B]? = _ from h] at hl; cases hl; cases ho)
theorem taken {X w1 w0 : World} {floor B1 B2 b1 b2 n1 n2 D D2 : Nat} {t e : TypeId} {v1 v2 : Value} {xs ys : List Value} {o o2 : List Deferred} (hf : floor ≤ D2) (hX : floor ≤ w1.heap.size) (hne : D2 ≠ D) (hv1 : Boxed X B1 t v1) (hv2 : Boxed X B2 t v2) (hr1 : X.ownsRow b1 e 1 v1 n1 xs) (hr2 : X.ownsRow b2 e 1 v2 n2 ys) (hD : X.heap[D]? = some (.deferred (some o))) (hD2 : X.heap[D2]? = some (.deferred (some o2))) (hB : Below floor w1 X) :
    Boxed (X.putObj D2 (.deferred none)) B1 t v1 ∧ Boxed (X.putObj D2 (.deferred none)) B2 t v2 ∧ (X.putObj D2 (.deferred none)).ownsRow b1 e 1 v1 n1 xs ∧ (X.putObj D2 (.deferred none)).ownsRow b2 e 1 v2 n2 ys ∧ (X.putObj D2 (.deferred none)).heap[D]? = some (.deferred (some o)) ∧ Below floor w1 (X.putObj D2 (.deferred none)) :=
  ⟨boxed_put _ hv1 hD2 rfl, boxed_put _ hv2 hD2 rfl, ownsRow_putObj hr1 _ hD2 rfl, ownsRow_putObj hr2 _ hD2 rfl, ((grownBy_putObj' X D2 (.deferred none)).block D (Array.getElem?_eq_some_iff.1 hD).1 (fun e => hne (by cases e; rfl))).trans hD, hB.grown (grownBy_putObj' X D2 _) (Nat.le_trans hX hB.size) (fun k e => by cases e; exact hf)⟩
theorem taken2 {X w1 w0 : World} {floor B1 B2 b1 b2 n1 n2 D : Nat} {t e : TypeId} {v1 v2 : Value} {xs ys : List Value} {o : List Deferred} (hf : floor ≤ D) (hX : floor ≤ w1.heap.size) (hv1 : Boxed X B1 t v1) (hv2 : Boxed X B2 t v2) (hr1 : X.ownsRow b1 e 1 v1 n1 xs) (hr2 : X.ownsRow b2 e 1 v2 n2 ys) (hD : X.heap[D]? = some (.deferred (some o))) (hB : Below floor w1 X) :
    Boxed (X.putObj D (.deferred none)) B1 t v1 ∧ Boxed (X.putObj D (.deferred none)) B2 t v2 ∧ (X.putObj D (.deferred none)).ownsRow b1 e 1 v1 n1 xs ∧ (X.putObj D (.deferred none)).ownsRow b2 e 1 v2 n2 ys ∧ Below floor w1 (X.putObj D (.deferred none)) :=
  ⟨boxed_put _ hv1 hD rfl, boxed_put _ hv2 hD rfl, ownsRow_putObj hr1 _ hD rfl, ownsRow_putObj hr2 _ hD rfl, hB.grown (grownBy_putObj' X D _) (Nat.le_trans hX hB.size) (fun k e => by cases e; exact hf)⟩

set_option maxRecDepth 100000 in
set_option maxHeartbeats 4000000 in
theorem implTwice_in (F : Fence) (n : Nat) (hf : F.fn 26) (hg : F.fn 39) (hc : F.fn 46) (hro : F.round = none) (hn : 3 ≤ n) (a : Option Addr) (len cap : Nat) (zs : List Int) (most : Int) (hreach : len * 8 ≤ 140737488351232) (w : World) (hI : Rd w w.heap.size 1 a len (ints zs)) :
    CallsIn F n Try.prog 26 #[.slice a len cap, .int .i64 most] w fun e W' => ∃ A1 c1 A2 c2, e = .returned (.tuple #[.slice A1 (firstN zs.length most) c1, .slice A2 zs.length c2]) ∧ W'.ownsRow w.heap.size 3 1 (.slice A1 (firstN zs.length most) c1) (firstN zs.length most) (ints (zs.take (firstN zs.length most))) ∧ W'.ownsRow w.heap.size 3 1 (.slice A2 zs.length c2) zs.length (ints zs) ∧ Below w.heap.size w W' := by
  have h1 : 1 ≤ n := by omega
  have hzl : zs.length = len := by have := hI.1; simpa using this
  have HZ := hide hzl
  clear hzl
  obtain ⟨i0, hi, hz0, hz1, hz2⟩ := info_parts infoInt
  refine callsIn_of_wp_marks Try.func26 rfl hf ?_ hro
  simp only [Try.ntmps26, List.size_toArray, List.length_cons, List.length_nil, Nat.reduceAdd, Nat.reduceSub, Array.replicate_succ, Array.replicate_zero, List.push_toArray, List.append_toArray, List.nil_append, List.cons_append]
  gi_wp2_with (gi_at_call 39; refine (values_in F (n - 1) hg hro _ _ _ _).mono ?_; rintro e w' ⟨rfl, rfl⟩)
  obtain ⟨w1, hw1⟩ : ∃ w1, w1 = (((w.alloc (.cells #[.int .i64 most] 3)).alloc (.cells #[.slice none 0 0] 22)).alloc (.cells #[.slice none 0 0] 22)).alloc (.cells #[.slice a len cap] 22) := ⟨_, rfl⟩
  have bM : Boxed w1 w.heap.size 3 (.int .i64 most) := by rw [hw1]; exact ((((Boxed.new w 3 (.int .i64 most)).alloc _).alloc _).alloc _)
  have bO : Boxed w1 (w.heap.size + 1) 22 (.slice none 0 0) := by
    have := Boxed.new (w.alloc (.cells #[.int .i64 most] 3)) 22 (.slice none 0 0)
    simp only [World.size_alloc] at this
    rw [hw1]; exact (this.alloc _).alloc _
  have bP : Boxed w1 (w.heap.size + 1 + 1) 22 (.slice none 0 0) := by
    have := Boxed.new ((w.alloc (.cells #[.int .i64 most] 3)).alloc (.cells #[.slice none 0 0] 22)) 22 (.slice none 0 0)
    simp only [World.size_alloc] at this
    rw [hw1]; exact this.alloc _
  have bN : Boxed w1 (w.heap.size + 1 + 1 + 1) 22 (.slice a len cap) := by
    have := Boxed.new (((w.alloc (.cells #[.int .i64 most] 3)).alloc (.cells #[.slice none 0 0] 22)).alloc (.cells #[.slice none 0 0] 22)) 22 (.slice a len cap)
    simp only [World.size_alloc] at this
    rw [hw1]; exact this
  have hB1 : Below w.heap.size w w1 := by rw [hw1]; exact ((((Below.refl _ w).alloc (Nat.le_refl _) _).alloc (by simp) _).alloc (by simp; omega) _).alloc (by simp; omega) _
  have hs1 : w1.heap.size = w.heap.size + 4 := by rw [hw1]; simp
  rw [← hw1]
  have hsa : w1.heap.size ≤ w.heap.size + 4 := by omega
  have hsb : w.heap.size + 4 ≤ w1.heap.size := by omega
  have hI1 : Rd w1 (w.heap.size + 1) 1 a len (ints zs) := (hI.below hB1).more (Nat.le_succ _)
  clear hs1 hw1
  refine wpIn_rangeFunc_ownG hro h1 (gf := 46) (lb := #[.pointer (some ⟨w.heap.size + 1 + 1 + 1, 0, none⟩)]) rfl hc (enters_of Try.func46 (by kernel_rfl) rfl)
    (values_stops F (n - 1) hc hro (by omega) (w.heap.size + 1 + 1 + 1) (w.heap.size + 1) len cap a zs hreach _ (by omega) (by omega) bN.cell hI1) belowK_t (belowK_b (by omega)) (Below.refl _ _) (fun _ => rfl)
    (fun pre W => ((∃ v, Boxed W (w.heap.size + 1) 22 v ∧ W.ownsRow (w.heap.size + 1) 3 1 v pre.length (ints pre) ∧ (most < 0 ∨ (pre.length : Int) ≤ most)) ∧ (Boxed W (w.heap.size + 1 + 1) 22 (.slice none 0 0) ∧ Boxed W (w.heap.size + 1 + 1 + 1) 22 (.slice a len cap))) ∧ Below (w.heap.size + 1) w1 W)
    (fun c pre W => ((c = .exit 0 ∧ ∃ v, Boxed W (w.heap.size + 1) 22 v ∧ W.ownsRow (w.heap.size + 1) 3 1 v (pre.length - 1) (ints pre.dropLast) ∧ (pre ≠ [] ∧ ((pre.length - 1 : Nat) : Int) = most)) ∧ (Boxed W (w.heap.size + 1 + 1) 22 (.slice none 0 0) ∧ Boxed W (w.heap.size + 1 + 1 + 1) 22 (.slice a len cap))) ∧ Below (w.heap.size + 1) w1 W)
    (OwnFrom.and (OwnFrom.and (Own.from (holdsRow_own (w.heap.size + 1) (w.heap.size + 1) 22 3 1 (fun pre => pre.length) (fun pre => ints pre) (fun pre _ => (most < 0 ∨ (pre.length : Int) ≤ most))) _) (OwnFrom.and (Own.from (boxed_own (w.heap.size + 1 + 1) 22 (fun _ => .slice none 0 0)) _) (Own.from (boxed_own (w.heap.size + 1 + 1 + 1) 22 (fun _ => .slice a len cap)) _))) (ownFrom_below (by omega) (by omega)))
    (fun c => OwnFrom.and (OwnFrom.and (OwnFrom.and (ownFrom_pure _ _) (Own.from (holdsRow_own (w.heap.size + 1) (w.heap.size + 1) 22 3 1 (fun pre => pre.length - 1) (fun pre => ints pre.dropLast) (fun pre _ => (pre ≠ [] ∧ ((pre.length - 1 : Nat) : Int) = most))) _)) (OwnFrom.and (Own.from (boxed_own (w.heap.size + 1 + 1) 22 (fun _ => .slice none 0 0)) _) (Own.from (boxed_own (w.heap.size + 1 + 1 + 1) 22 (fun _ => .slice a len cap)) _))) (ownFrom_below (by omega) (by omega)))
    ⟨⟨⟨_, bO, World.ownsRow_nil _ _ _ _, by simp; omega⟩, bP, bN⟩, Below.refl _ _⟩
    (fun x => { tmps := #[.slice a len cap, .int .i64 most, undef, .pointer (some ⟨w.heap.size, 0, none⟩), .pointer (some ⟨w.heap.size + 1, 0, none⟩), .pointer (some ⟨w.heap.size + 1 + 1, 0, none⟩), .func (.func 46) #[] #[.pointer (some ⟨w.heap.size + 1 + 1 + 1, 0, none⟩)], .int .i64 x, undef, .slice a len cap, .func (.func 46) #[] #[.pointer (some ⟨w.heap.size + 1 + 1 + 1, 0, none⟩)], .func (.func 46) #[] #[.pointer (some ⟨w.heap.size + 1 + 1 + 1, 0, none⟩)], .int .i64 x, undef, undef, undef, undef, undef, undef, undef, undef, undef, undef, undef, undef, undef, undef, undef, undef], defers := [] }) ?assign ?body ?done ?stop
  case assign =>
    intro l x W K hK
    gi_wp2
    exact hK
  case body =>
    rintro l pre x W ⟨⟨⟨v, hv, hrow, hle⟩, hP, hN⟩, hB⟩ hlt
    obtain ⟨A', c', rfl⟩ := own_slice hrow
    have hcv := hv.cell
    have hmc := (hB.cell (p := ⟨w.heap.size, 0, none⟩) (by simp)).trans bM.cell
    by_cases hm : (pre.length : Int) = most
    · have hm' : ((pre.length : Int) == most) = true := by simpa using hm
      have HM := hide hm
      clear hm
      gi_wp2
      exact ⟨KeepsFrom.refl _ _, ⟨⟨rfl, _, hv, by simpa using hrow, by simp, by simpa using HM.out⟩, hP, hN⟩, hB⟩
    · have hm' : ((pre.length : Int) == most) = false := by simpa using hm
      have HM := hide hm
      clear hm
      gi_wp2_with (gi_at_builtin; go_must (refine wpListIn_append_own _ rfl _ _ 22 rfl (w.heap.size + 1) 3 i0 (.int .i64 0) 1 8 Try.underlying22 hi hz0 hz1 hz2 rfl (by decide) _ _ _ rfl (hrow.alloc _) ⟨W.heap.size, 0, none⟩ 1 1 [.int .i64 x] rfl rfl (cell_one_new _ _ _) (by simp [Value.oneCell']) (by unfold maxLen; omega) (by omega) (by have := hB.size; simp; omega) ?_); intro v' w2 hown' hgrow _; obtain ⟨g', cap', rfl⟩ := ownsRow_succ hown'; obtain ⟨hv1, hv2, hr2, hk2, hb2⟩ := hv.appended (by decide) hrow (by have := hB.size; omega) (Nat.le_refl _) hown' hgrow; have hc1 := hv1.cell; have hf1 := hv1.frozen)
      exact ⟨hk2.from _, hb2, ⟨⟨_, hv2, by simpa using hr2, snoc_le hle HM.out⟩, boxed_kept hP (by decide) (by omega) hrow hgrow, boxed_kept hN (by decide) (by omega) hrow hgrow⟩, hB.trans hb2⟩
  case done =>
    rintro D ys W hD rfl ⟨⟨⟨v, hv, hrow, hle⟩, hP, hN⟩, hB⟩ hK
    have hq : firstN ys.length most = ys.length := by unfold firstN; split <;> omega
    have hrow1 : W.ownsRow (w.heap.size + 1) 3 1 v (firstN ys.length most) (ints (ys.take (firstN ys.length most))) := by rw [hq, List.take_length]; exact hrow
    clear hrow hq hle
    gi_wp2
    have hsW := hB.size
    have hWl := hrow1.lt
    refine wpIn_rangeFunc_ownG hro h1 (gf := 46) (lb := #[.pointer (some ⟨w.heap.size + 1 + 1 + 1, 0, none⟩)]) rfl hc (enters_of Try.func46 (by kernel_rfl) rfl)
      (values_stops F (n - 1) hc hro (by omega) (w.heap.size + 1 + 1 + 1) (w.heap.size + 1) len cap a ys hreach W (by omega) (by omega) hN.cell (hI1.below hB)) belowK_t (belowK_b (by omega)) (Below.refl _ _) (fun _ => rfl)
      (fun pre X => (((∃ v2, Boxed X (w.heap.size + 1 + 1) 22 v2 ∧ X.ownsRow W.heap.size 3 1 v2 pre.length (ints pre) ∧ True) ∧ (∃ v1, Boxed X (w.heap.size + 1) 22 v1 ∧ X.ownsRow (w.heap.size + 1) 3 1 v1 (firstN ys.length most) (ints (ys.take (firstN ys.length most))) ∧ (∀ k, v1.ownBlock = some k → k < W.heap.size))) ∧ (X.heap[D]? = some (.deferred (some [])) ∧ W.heap.size ≤ X.heap.size)) ∧ Below (w.heap.size + 1) w1 X)
      (fun _ _ _ => False)
      (OwnFrom.and (OwnFrom.and (OwnFrom.and (Own.from (holdsRow_own W.heap.size (w.heap.size + 1 + 1) 22 3 1 (fun pre => pre.length) (fun pre => ints pre) (fun _ _ => True)) _) (Own.from (holdsRow_own (w.heap.size + 1) (w.heap.size + 1) 22 3 1 (fun _ => firstN ys.length most) (fun _ => ints (ys.take (firstN ys.length most))) (fun _ v1 => ∀ k, v1.ownBlock = some k → k < W.heap.size)) _)) (OwnFrom.and (ownFrom_block (Array.getElem?_eq_some_iff.1 hK).1) (fun _ _ _ _ hs hg _ => Nat.le_trans hs hg.size))) (ownFrom_below (by omega) (by omega)))
      (fun _ _ _ _ _ hs _ _ => hs)
      ⟨⟨⟨⟨_, hP, World.ownsRow_nil _ _ _ _, trivial⟩, _, hv, hrow1, fun k e => (hWl k e).2⟩, hK, Nat.le_refl _⟩, hB⟩
      (fun x => { tmps := #[.slice a len cap, .int .i64 most, undef, .pointer (some ⟨w.heap.size, 0, none⟩), .pointer (some ⟨w.heap.size + 1, 0, none⟩), .pointer (some ⟨w.heap.size + 1 + 1, 0, none⟩), .func (.func 46) #[] #[.pointer (some ⟨w.heap.size + 1 + 1 + 1, 0, none⟩)], undef, .int .i64 x, .slice a len cap, .func (.func 46) #[] #[.pointer (some ⟨w.heap.size + 1 + 1 + 1, 0, none⟩)], .func (.func 46) #[] #[.pointer (some ⟨w.heap.size + 1 + 1 + 1, 0, none⟩)], undef, undef, undef, undef, undef, undef, undef, undef, undef, .func (.func 46) #[] #[.pointer (some ⟨w.heap.size + 1 + 1 + 1, 0, none⟩)], .int .i64 x, undef, undef, undef, undef, undef, undef], defers := [] }) ?assign2 ?body2 ?done2 ?stop2
    case assign2 =>
      intro l x X K hK
      gi_wp2
      exact hK
    case body2 =>
      rintro l pre x X ⟨⟨⟨⟨v2, hv2, hrow2, _⟩, v1, hv1, hr1, hlt1⟩, hKX, hXs⟩, hBX⟩ hlt
      obtain ⟨A', c', rfl⟩ := own_slice hrow2
      have hcv2 := hv2.cell
      gi_wp2_with (gi_at_builtin; go_must (refine wpListIn_append_own _ rfl _ _ 22 rfl W.heap.size 3 i0 (.int .i64 0) 1 8 Try.underlying22 hi hz0 hz1 hz2 rfl (by decide) _ _ _ rfl (hrow2.alloc _) ⟨X.heap.size, 0, none⟩ 1 1 [.int .i64 x] rfl rfl (cell_one_new _ _ _) (by simp [Value.oneCell']) (by unfold maxLen; omega) (by omega) (by simp; omega) ?_); intro v' w2 hown' hgrow _; obtain ⟨g', cap', rfl⟩ := ownsRow_succ hown'; obtain ⟨hq1, hq2, hq3, hq4, hq5⟩ := boxed_appended (m := w.heap.size + 1) hv2 (by decide) hrow2 hXs (by omega) (by omega) hown' hgrow; have hc1 := hq1.cell; have hf1 := hq1.frozen)
      exact ⟨hq4.from _, hq5, ⟨⟨⟨_, hq2, by simpa using hq3, trivial⟩, v1, boxed_kept hv1 (by decide) (by omega) hrow2 hgrow, row_kept (te := by decide) hr1 hlt1 hrow2 hgrow hv2, hlt1⟩, hq4.same D _ hKX rfl, by have h1 := hgrow.size; simp [World.setCell] at h1 ⊢; omega⟩, hBX.trans hq5⟩
    case done2 =>
      rintro D2 ys2 X hD2 hys ⟨⟨⟨⟨v2, hv2, hrow2, _⟩, v1, hv1, hr1, hlt1⟩, hKX, hXs⟩, hBX⟩ hK2
      subst hys
      obtain ⟨A1, c1, rfl⟩ := own_slice hr1
      obtain ⟨A2, c2, rfl⟩ := own_slice hrow2
      have hcv1 := hv1.cell
      have hcv2 := hv2.cell
      have hfv1 := hv1.frozen
      have hfv2 := hv2.frozen
      have hDD : D ≠ D2 := by have := (Array.getElem?_eq_some_iff.1 hK).1; omega
      obtain ⟨e1, e2, e3, e4, e5, e6, e7⟩ := restored (floor := w.heap.size + 1) (Nat.le_refl _) (by omega) (by omega) (by decide) hv1 hv2 hr1 hrow2 hKX hK2 hBX
      gi_wp2
      gi_region
      all_goals
        gi_wp2
        refine ⟨by simp, .inl ⟨_, _, rfl, run_takeDeferred e6, ?_⟩⟩
        obtain ⟨f1, f2, f3, f4, f5, f7⟩ := taken (w0 := w) (by omega) (by omega) (Ne.symm hDD) e1 e2 e3 e4 e5 e6 e7
        refine ⟨by simp, .inl ⟨_, _, rfl, run_takeDeferred f5, ?_⟩⟩
        obtain ⟨g1, g2, g3, g4, g7⟩ := taken2 (w0 := w) (by omega) (by omega) f1 f2 f3 f4 f5 f7
        refine ⟨_, ?_, A1, c1, A2, c2, rfl, own_base g3 (by omega), own_base g4 (by omega), hB1.trans (g7.mono (Nat.le_succ _))⟩
        simp [results, Try.f26, go_sem, g1.cell, g2.cell]
    case stop2 =>
      rintro D2 c2 pre2 X _ _ h _
      exact h.elim
  case stop =>
    rintro D c pre W hD hpre ⟨⟨⟨rfl, v, hv, hrow, hne, hm⟩, hP, hN⟩, hB⟩ hK
    have hrow1 : W.ownsRow (w.heap.size + 1) 3 1 v (firstN zs.length most) (ints (zs.take (firstN zs.length most))) := by
      have hl : 0 < pre.length := List.length_pos_iff.2 hne
      have hle := hpre.length_le
      have hq : firstN zs.length most = pre.length - 1 := by unfold firstN; split <;> omega
      have ht : zs.take (pre.length - 1) = pre.dropLast := by
        obtain ⟨t, rfl⟩ := hpre
        rw [List.dropLast_eq_take, List.take_append_of_le_length (by omega)]
      rw [hq, ht]; exact hrow
    clear hrow hne hm hpre
    gi_wp2
    have hsW := hB.size
    have hWl := hrow1.lt
    refine wpIn_rangeFunc_ownG hro h1 (gf := 46) (lb := #[.pointer (some ⟨w.heap.size + 1 + 1 + 1, 0, none⟩)]) rfl hc (enters_of Try.func46 (by kernel_rfl) rfl)
      (values_stops F (n - 1) hc hro (by omega) (w.heap.size + 1 + 1 + 1) (w.heap.size + 1) len cap a zs hreach W (by omega) (by omega) hN.cell (hI1.below hB)) belowK_t (belowK_b (by omega)) (Below.refl _ _) (fun _ => rfl)
      (fun pre X => (((∃ v2, Boxed X (w.heap.size + 1 + 1) 22 v2 ∧ X.ownsRow W.heap.size 3 1 v2 pre.length (ints pre) ∧ True) ∧ (∃ v1, Boxed X (w.heap.size + 1) 22 v1 ∧ X.ownsRow (w.heap.size + 1) 3 1 v1 (firstN zs.length most) (ints (zs.take (firstN zs.length most))) ∧ (∀ k, v1.ownBlock = some k → k < W.heap.size))) ∧ (X.heap[D]? = some (.deferred (some [])) ∧ W.heap.size ≤ X.heap.size)) ∧ Below (w.heap.size + 1) w1 X)
      (fun _ _ _ => False)
      (OwnFrom.and (OwnFrom.and (OwnFrom.and (Own.from (holdsRow_own W.heap.size (w.heap.size + 1 + 1) 22 3 1 (fun pre => pre.length) (fun pre => ints pre) (fun _ _ => True)) _) (Own.from (holdsRow_own (w.heap.size + 1) (w.heap.size + 1) 22 3 1 (fun _ => firstN zs.length most) (fun _ => ints (zs.take (firstN zs.length most))) (fun _ v1 => ∀ k, v1.ownBlock = some k → k < W.heap.size)) _)) (OwnFrom.and (ownFrom_block (Array.getElem?_eq_some_iff.1 hK).1) (fun _ _ _ _ hs hg _ => Nat.le_trans hs hg.size))) (ownFrom_below (by omega) (by omega)))
      (fun _ _ _ _ _ hs _ _ => hs)
      ⟨⟨⟨⟨_, hP, World.ownsRow_nil _ _ _ _, trivial⟩, _, hv, hrow1, fun k e => (hWl k e).2⟩, hK, Nat.le_refl _⟩, hB⟩
      (fun x => { tmps := #[.slice a len cap, .int .i64 most, undef, .pointer (some ⟨w.heap.size, 0, none⟩), .pointer (some ⟨w.heap.size + 1, 0, none⟩), .pointer (some ⟨w.heap.size + 1 + 1, 0, none⟩), .func (.func 46) #[] #[.pointer (some ⟨w.heap.size + 1 + 1 + 1, 0, none⟩)], undef, .int .i64 x, .slice a len cap, .func (.func 46) #[] #[.pointer (some ⟨w.heap.size + 1 + 1 + 1, 0, none⟩)], .func (.func 46) #[] #[.pointer (some ⟨w.heap.size + 1 + 1 + 1, 0, none⟩)], undef, undef, undef, undef, undef, undef, undef, undef, undef, .func (.func 46) #[] #[.pointer (some ⟨w.heap.size + 1 + 1 + 1, 0, none⟩)], .int .i64 x, undef, undef, undef, undef, undef, undef], defers := [] }) ?assign3 ?body3 ?done3 ?stop3
    case assign3 =>
      intro l x X K hK
      gi_wp2
      exact hK
    case body3 =>
      rintro l pre x X ⟨⟨⟨⟨v2, hv2, hrow2, _⟩, v1, hv1, hr1, hlt1⟩, hKX, hXs⟩, hBX⟩ hlt
      obtain ⟨A', c', rfl⟩ := own_slice hrow2
      have hcv2 := hv2.cell
      gi_wp2_with (gi_at_builtin; go_must (refine wpListIn_append_own _ rfl _ _ 22 rfl W.heap.size 3 i0 (.int .i64 0) 1 8 Try.underlying22 hi hz0 hz1 hz2 rfl (by decide) _ _ _ rfl (hrow2.alloc _) ⟨X.heap.size, 0, none⟩ 1 1 [.int .i64 x] rfl rfl (cell_one_new _ _ _) (by simp [Value.oneCell']) (by unfold maxLen; omega) (by omega) (by simp; omega) ?_); intro v' w2 hown' hgrow _; obtain ⟨g', cap', rfl⟩ := ownsRow_succ hown'; obtain ⟨hq1, hq2, hq3, hq4, hq5⟩ := boxed_appended (m := w.heap.size + 1) hv2 (by decide) hrow2 hXs (by omega) (by omega) hown' hgrow; have hc1 := hq1.cell; have hf1 := hq1.frozen)
      exact ⟨hq4.from _, hq5, ⟨⟨⟨_, hq2, by simpa using hq3, trivial⟩, v1, boxed_kept hv1 (by decide) (by omega) hrow2 hgrow, row_kept (te := by decide) hr1 hlt1 hrow2 hgrow hv2, hlt1⟩, hq4.same D _ hKX rfl, by have h1 := hgrow.size; simp [World.setCell] at h1 ⊢; omega⟩, hBX.trans hq5⟩
    case done3 =>
      rintro D2 ys2 X hD2 hys ⟨⟨⟨⟨v2, hv2, hrow2, _⟩, v1, hv1, hr1, hlt1⟩, hKX, hXs⟩, hBX⟩ hK2
      subst hys
      obtain ⟨A1, c1, rfl⟩ := own_slice hr1
      obtain ⟨A2, c2, rfl⟩ := own_slice hrow2
      have hcv1 := hv1.cell
      have hcv2 := hv2.cell
      have hfv1 := hv1.frozen
      have hfv2 := hv2.frozen
      have hDD : D ≠ D2 := by have := (Array.getElem?_eq_some_iff.1 hK).1; omega
      obtain ⟨e1, e2, e3, e4, e5, e6, e7⟩ := restored (floor := w.heap.size + 1) (Nat.le_refl _) (by omega) (by omega) (by decide) hv1 hv2 hr1 hrow2 hKX hK2 hBX
      gi_wp2
      gi_region
      all_goals
        gi_wp2
        refine ⟨by simp, .inl ⟨_, _, rfl, run_takeDeferred e6, ?_⟩⟩
        obtain ⟨f1, f2, f3, f4, f5, f7⟩ := taken (w0 := w) (by omega) (by omega) (Ne.symm hDD) e1 e2 e3 e4 e5 e6 e7
        refine ⟨by simp, .inl ⟨_, _, rfl, run_takeDeferred f5, ?_⟩⟩
        obtain ⟨g1, g2, g3, g4, g7⟩ := taken2 (w0 := w) (by omega) (by omega) f1 f2 f3 f4 f5 f7
        refine ⟨_, ?_, A1, c1, A2, c2, rfl, own_base g3 (by omega), own_base g4 (by omega), hB1.trans (g7.mono (Nat.le_succ _))⟩
        simp [results, Try.f26, go_sem, g1.cell, g2.cell]
    case stop3 =>
      rintro D2 c2 pre2 X _ _ h _
      exact h.elim
end Go.Proofs.Ytbgkchjephioiaa
