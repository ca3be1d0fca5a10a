/-
  impl.Chunk.
-/
import Derived.WalkKit
import Derived.WalkSpells
import Derived.WalkLawsBesides
import Derived.Outline
import Derived.Deep.DeepMust
import Derived.Test.YtiihcdoemgmjbaaChkR
namespace Go.Proofs.Ytiihcdoemgmjbaa
open Go.RowKit Go.Shelf
set_option linter.unusedVariables false
set_option linter.unusedSimpArgs false
attribute [local go_sem] Oper.semAt_some

section
variable {B : Nat} {uo ur vo vo' : Value} {no no' : Nat} {xo xo' : List Value} {vr vr' : Value} {nr nr' : Nat} {xr xr' : List Value} {rs : List (Option Addr × Nat × Nat)} {zz : List (List Int)} {W w' w'' : World}
theorem Hd.self (h : Hd B uo ur vo no xo vr nr xr rs zz W w') : Hd B uo ur vo no xo vr nr xr rs zz w' w' :=
  { bo := h.bo, br := h.br, ro := h.ro, rr := h.rr, ra := h.ra, ko := KeepsOthers.refl _, bl := Below.refl _ _, kb := fun _ _ _ _ => rfl, hs := Nat.le_refl _, h6 := Nat.le_trans h.h6 h.hs }
theorem Hd.nc {X Y : World} {row : Option Nat} (h : Hd B uo ur vo no xo vr nr xr rs zz X X) (hg : X.grownBy Y row) (hr : ∀ r, row = some r → ∃ o : Obj, X.heap[r]? = some o ∧ o.isCells = false) : Hd B uo ur vo no xo vr nr xr rs zz Y Y := by
  have nb : ∀ {b : Nat} {t : TypeId} {v : Value}, Boxed X b t v → some b ≠ row := fun hb e => by
    obtain ⟨o, ho, hc⟩ := hr _ e.symm
    rw [show X.heap[_]? = _ from hb] at ho; cases ho; cases hc
  have nr' : ∀ {base : Nat} {e : TypeId} {sz : Nat} {v : Value} {n : Nat} {xs : List Value}, X.ownsRow base e sz v n xs → v.ownBlock = Option.none ∨ v.ownBlock ≠ row := fun {_ _ _ v _ _} ho => by
    cases hv : v.ownBlock with
    | none => exact .inl rfl
    | some g =>
      right
      intro e
      obtain ⟨_, _, o, h1, h2⟩ := own_block_lt ho g hv
      obtain ⟨o', h3, h4⟩ := hr g e.symm
      rw [h1] at h3; cases h3; rw [h2] at h4; cases h4
  exact { bo := h.bo.kept hg (nb h.bo), br := h.br.kept hg (nb h.br), ro := h.ro.kept hg (nr' h.ro), rr := h.rr.kept hg (nr' h.rr), ra := h.ra.kept hg (fun g v n xs e _ hv e2 => (nr' hv).elim (fun h1 => by rw [h1] at e; cases e) (fun h1 => h1 (e.trans e2))), ko := KeepsOthers.refl _, bl := Below.refl _ _, kb := fun _ _ _ _ => rfl, hs := Nat.le_refl _, h6 := Nat.le_trans h.h6 hg.size }
end
def ixn {c len : Nat} (l : List (Ix c len)) : List Nat := l.map (·.1)
theorem ixn_snoc {c len : Nat} (l : List (Ix c len)) (y : Ix c len) : ixn (l ++ [y]) = ixn l ++ [y.1] := by simp [ixn]
/-- the slices' lists; their capacities -/
def conX {c len : Nat} (zs : List Int) (l : List (Ix c len)) : List (List Int) := (ixn l).map (chAt c zs)
def capX {c len : Nat} (l : List (Ix c len)) : List Int := (ixn l).map fun j => (chL c len j : Int)
theorem conX_snoc {c len : Nat} (zs : List Int) (l : List (Ix c len)) (y : Ix c len) : conX zs (l ++ [y]) = conX zs l ++ [chAt c zs y.1] := by simp [conX, ixn_snoc]
theorem capX_snoc {c len : Nat} (l : List (Ix c len)) (y : Ix c len) : capX (l ++ [y]) = capX l ++ [(chL c len y.1 : Int)] := by simp [capX, ixn_snoc]

theorem RowsOwn.base {w : World} {base base' : Nat} {rs : List (Option Addr × Nat × Nat)} {zz : List (List Int)} (h : RowsOwn w base rs zz) (hb : base' ≤ base) : RowsOwn w base' rs zz := ⟨h.1, fun i r z h1 h2 => own_base (h.2 i r z h1 h2) hb⟩
theorem Rd.belowD {w w' : World} {B sz n : Nat} {A : Option Addr} {cs : List Value} (h : Rd w B sz A n cs) (hb : Below B w w') : Rd w' B sz A n cs := h.below hb

theorem set3 (b : Nat) (x0 x1 x2 y0 y1 y2 : Value) (w : World) (h0 : w.cell? ⟨b, 0, none⟩ = some x0) (h1 : w.cell? ⟨b + 1, 0, none⟩ = some x1) (h2 : w.cell? ⟨b + 1 + 1, 0, none⟩ = some x2) (W : World)
    (hW : W = ((w.setCell ⟨b, 0, none⟩ y0).setCell ⟨b + 1, 0, none⟩ y1).setCell ⟨b + 1 + 1, 0, none⟩ y2) :
    W.cell? ⟨b, 0, none⟩ = some y0 ∧ W.cell? ⟨b + 1, 0, none⟩ = some y1 ∧ W.cell? ⟨b + 1 + 1, 0, none⟩ = some y2 ∧ Below b w W := by
  subst hW
  refine ⟨?_, ?_, ?_, (((Below.refl _ w).setCell (p := ⟨b, 0, none⟩) (Nat.le_refl _) _).setCell (p := ⟨b + 1, 0, none⟩) (Nat.le_succ _) _).setCell (p := ⟨b + 1 + 1, 0, none⟩) (show b ≤ b + 1 + 1 by omega) _⟩
  · rw [csc (by show _ ≠ _; first | (simp; done) | (simp; omega)), csc (by show _ ≠ _; first | (simp; done) | (simp; omega))]
    exact World.cell?_setCell_same _ _ _ h0
  · rw [csc (by show _ ≠ _; first | (simp; done) | (simp; omega))]
    exact World.cell?_setCell_same _ _ _ (u := x1) (by rw [csc (by show _ ≠ _; first | (simp; done) | (simp; omega))]; exact h1)
  · exact World.cell?_setCell_same _ _ _ (u := x2) (by rw [csc (by show _ ≠ _; first | (simp; done) | (simp; omega)), csc (by show _ ≠ _; first | (simp; done) | (simp; omega))]; exact h2)
theorem chCatch_panicking (b : Nat) (x0 x1 x2 : Value) (u : TypeId) (pv : Value) (older : List PanicEntry) (w : World) (h0 : w.cell? ⟨b, 0, none⟩ = some x0) (h1 : w.cell? ⟨b + 1, 0, none⟩ = some x1) (h2 : w.cell? ⟨b + 1 + 1, 0, none⟩ = some x2) (f0 : w.frozen? ⟨b, 0, none⟩ = false) (f1 : w.frozen? ⟨b + 1, 0, none⟩ = false) (f2 : w.frozen? ⟨b + 1 + 1, 0, none⟩ = false) :
    CallsD Try.prog 28 #[.pointer (some ⟨b, 0, none⟩), .pointer (some ⟨b + 1, 0, none⟩), .pointer (some ⟨b + 1 + 1, 0, none⟩)] (.panicking ({ v := .iface u pv, recovered := false } :: older)) w fun e u' w' =>
      e = .returned (.tuple #[]) ∧ u' = .panicking ({ v := .iface u pv, recovered := true } :: older) ∧ w' = ((w.setCell ⟨b, 0, none⟩ (.slice none 0 0)).setCell ⟨b + 1, 0, none⟩ (.slice none 0 0)).setCell ⟨b + 1 + 1, 0, none⟩ (.bool true) := by
  refine callsD_of_wpS Try.func28 rfl fun c₀ cs hu => ?_
  apply wpS_seq
  apply wpS_region
  simp [wpOpsS, go_sem, recoverD, hu, Try.ntmps28, Exit.thenS]
  refine wpS_cond (t := true) (by simp [Act.eval, Array.replicate]) ?_
  simp only [if_true]
  apply wpS_region
  simp [wpOpsS, go_sem, h0, h1, h2, f0, f1, f2, bodyPostS, results, Try.results28]
theorem chCatch_idle (n : Nat) (p0 p1 p2 : Addr) (w : World) :
    CallsDIn Fence.wide n Try.prog 28 #[.pointer (some p0), .pointer (some p1), .pointer (some p2)] .returning w fun e u' w' => e = .returned (.tuple #[]) ∧ u' = .returning ∧ w' = w := by
  refine callsDIn_of_wpSIn Try.func28 rfl trivial fun c₀ cs hu => ?_
  apply wpSIn_seq
  apply wpSIn_region
  simp [wpOpsSIn, go_sem, recoverD, hu, Try.ntmps28, Exit.thenS, Fence.wide]
  refine wpSIn_cond (t := false) (by simp [Act.eval, Array.replicate]) ?_
  simp only [Bool.false_eq_true, if_false]
  refine wpSIn_of_wpIn rfl (wpIn_skip ?_)
  cases c₀
  simp_all [bodyPostS, results, Try.results28]

set_option maxRecDepth 100000 in
set_option maxHeartbeats 2000000 in
theorem implChunk_panic (a : Option Addr) (len cap : Nat) (c most : Int) (hc : c < 1) (w : World) :
    Calls Try.prog 15 #[.slice a len cap, .int .i64 c, .int .i64 most] w fun e w' => e = .returned (.tuple #[.slice none 0 0, .slice none 0 0, .bool true]) ∧ Below w.heap.size w w' := by
  have HP := hide (fun (a' : Option Addr) (cap' : Nat) w => callsIn_wide.1 (chunkNeg 3 a' len cap' c hc w))
  have hmf : ∀ (fn : Fn) (first cap : Array Value) (w : World), (Instr.makeFunc fn first cap).run Try.prog w = .ok (.func fn first cap) w := fun _ _ _ _ => rfl
  go_enter_defers Try.func15, Try.ntmps15
  go_wp2_with fail
  refine (HP.out _ _ _).mono ?_
  rintro e w4 ⟨⟨u, pv, rfl⟩, hw4⟩
  have hb4 : Below w.heap.size w w4 := by rw [hw4]; exact ((((((Below.refl _ w).alloc (Nat.le_refl _) _).alloc (by simp) _).alloc (by simp; omega) _).alloc (by simp; omega) _).alloc (by simp; omega) _).alloc (by simp; omega) _
  have e0 : w4.cell? ⟨w.heap.size + 1, 0, none⟩ = some (.slice none 0 0) := by rw [hw4]; simp [go_sem]
  have e1 : w4.cell? ⟨w.heap.size + 1 + 1, 0, none⟩ = some (.slice none 0 0) := by rw [hw4]; simp [go_sem]
  have e2 : w4.cell? ⟨w.heap.size + 1 + 1 + 1, 0, none⟩ = some (.bool false) := by rw [hw4]; simp [go_sem]
  have g0 : w4.frozen? ⟨w.heap.size + 1, 0, none⟩ = false := by rw [hw4]; simp [go_sem]
  have g1 : w4.frozen? ⟨w.heap.size + 1 + 1, 0, none⟩ = false := by rw [hw4]; simp [go_sem]
  have g2 : w4.frozen? ⟨w.heap.size + 1 + 1 + 1, 0, none⟩ = false := by rw [hw4]; simp [go_sem]
  clear hw4
  go_wp2
  refine leaves_cons (f := 28) (args := #[.pointer (some ⟨w.heap.size + 1, 0, none⟩), .pointer (some ⟨w.heap.size + 1 + 1, 0, none⟩), .pointer (some ⟨w.heap.size + 1 + 1 + 1, 0, none⟩)]) (by simp) (by simp [go_sem]) ?_
  refine (chCatch_panicking (w.heap.size + 1) _ _ _ u pv [] w4 e0 e1 e2 g0 g1 g2).mono ?_
  rintro e u' w'' ⟨rfl, rfl, hw''⟩
  obtain ⟨q0, q1, q2, hb5⟩ := set3 (w.heap.size + 1) _ _ _ _ _ _ w4 e0 e1 e2 w'' hw''
  clear hw''
  simp [Leaves, settle, results, Try.results15, go_sem, q0, q1, q2]
  exact hb4.trans (hb5.mono (by omega))

set_option maxRecDepth 100000 in
set_option maxHeartbeats 4000000 in
theorem implChunkO (a : Option Addr) (len cap : Nat) (zs : List Int) (c : Nat) (most : Int) (hn : len ≤ 4194304) (hcap : len ≤ cap) (qc1 : 1 ≤ c) (qc2 : c ≤ 9223372036854775807) (w : World) (hI : Rd w w.heap.size 1 a len (ints zs)) :
    Calls Try.prog 15 #[.slice a len cap, .int .i64 c, .int .i64 most] w fun e w' => ∃ A ca rs A' cb, e = .returned (.tuple #[.slice A (firstN (nCh c len) most) ca, .slice A' (firstN (nCh c len) most) cb, .bool false]) ∧ Rd w' w'.heap.size 1 A (firstN (nCh c len) most) (rows rs) ∧ RowsOwn w' w.heap.size rs (chs c zs (firstN (nCh c len) most)) ∧ Rd w' w'.heap.size 1 A' (firstN (nCh c len) most) (ints ((List.range (firstN (nCh c len) most)).map fun j => (chL c len j : Int))) ∧ Below w.heap.size w w' := by
  refine (callsIn_wide (n := 3)).1 ?_
  obtain ⟨K, hK⟩ : ∃ K, firstN (nCh c len) most = K := ⟨_, rfl⟩
  rw [hK]
  have HK := hide hK
  clear hK
  have hzl : zs.length = len := by have := hI.1; simpa using this
  have HZ := hide hzl
  clear hzl
  obtain ⟨i0, hi, hz0, hz1, hz2⟩ := info_parts infoInt
  obtain ⟨j0, hj, hy0, hy1, hy2⟩ := info_parts infoSl
  have hmf : ∀ (fn : Fn) (first cap : Array Value) (w : World), (Instr.makeFunc fn first cap).run Try.prog w = .ok (.func fn first cap) w := fun _ _ _ _ => rfl
  refine callsIn_of_wp_marks Try.func15 rfl trivial ?_ rfl
  simp only [Try.ntmps15, List.size_toArray, List.length_cons, List.length_nil, Nat.reduceAdd, Nat.reduceSub, Array.replicate_succ, Array.replicate_zero, List.push_toArray, List.append_toArray, List.nil_append, List.cons_append]
  gi_wp2_with (first | (refine ⟨trivial, ?_⟩; gi_at_call 29; refine (chunk_in _ _ _ _ c qc1 _).mono ?_; rintro e w' ⟨rfl, rfl⟩))
  obtain ⟨W0, hW0⟩ : ∃ W0, W0 = (((((w.alloc (.cells #[.int .i64 most] 3)).alloc (.cells #[.slice none 0 0] 23)).alloc (.cells #[.slice none 0 0] 22)).alloc (.cells #[.bool false] 4)).alloc (.cells #[.slice a len cap] 22)).alloc (.cells #[.int .i64 c] 3) := ⟨_, rfl⟩
  have hs0 : W0.heap.size = w.heap.size + 6 := by rw [hW0]; simp
  have hcM : W0.cell? ⟨w.heap.size, 0, none⟩ = some (.int .i64 most) := by rw [hW0]; simp [go_sem]
  have hcP : W0.cell? ⟨w.heap.size + 1 + 1 + 1, 0, none⟩ = some (.bool false) := by rw [hW0]; simp [go_sem]
  have hfP : W0.frozen? ⟨w.heap.size + 1 + 1 + 1, 0, none⟩ = false := by rw [hW0]; simp [go_sem]
  have hBs : W0.cell? ⟨w.heap.size + 1 + 1 + 1 + 1, 0, none⟩ = some (.slice a len cap) := by rw [hW0]; simp [go_sem]
  have hBn : W0.cell? ⟨w.heap.size + 1 + 1 + 1 + 1 + 1, 0, none⟩ = some (.int .i64 c) := by rw [hW0]; simp [go_sem]
  have hB0 : Below w.heap.size w W0 := by rw [hW0]; exact ((((((Below.refl _ w).alloc (Nat.le_refl _) _).alloc (by simp) _).alloc (by simp; omega) _).alloc (by simp; omega) _).alloc (by simp; omega) _).alloc (by simp; omega) _
  have hd0 : Hd w.heap.size (.slice none 0 0) (.slice none 0 0) (.slice none 0 0) 0 [] (.slice none 0 0) 0 [] [] [] W0 W0 := by
    refine { bo := ?_, br := ?_, ro := World.ownsRow_nil _ _ _ _, rr := World.ownsRow_nil _ _ _ _, ra := ⟨⟨rfl, by simp⟩, by simp⟩, ko := KeepsOthers.refl _, bl := Below.refl _ _, kb := fun _ _ _ _ => rfl, hs := Nat.le_refl _, h6 := by rw [hs0]; exact Nat.le_refl _ }
    · rw [hW0]
      have := Boxed.new (w.alloc (.cells #[.int .i64 most] 3)) 23 (.slice none 0 0)
      rw [World.size_alloc] at this
      exact (((this.alloc _).alloc _).alloc _).alloc _
    · rw [hW0]
      have := Boxed.new ((w.alloc (.cells #[.int .i64 most] 3)).alloc (.cells #[.slice none 0 0] 23)) 22 (.slice none 0 0)
      rw [World.size_alloc, World.size_alloc] at this
      exact ((this.alloc _).alloc _).alloc _
  rw [← hW0]
  clear hW0
  have HS0 := hide hs0
  clear hs0
  obtain ⟨b, off, hA⟩ : ∃ b off, 0 < len → a = some ⟨b, off, none⟩ := by
    rcases Nat.eq_zero_or_pos len with h | h
    · exact ⟨0, 0, fun h' => absurd h' (by omega)⟩
    · obtain ⟨b, off, e, _⟩ := hI.2 h
      exact ⟨b, off, fun _ => e⟩
  refine wpIn_rangeFunc_ownG rfl (by decide) (gf := 39) (lb := #[.pointer (some ⟨w.heap.size + 1 + 1 + 1 + 1, 0, none⟩), .pointer (some ⟨w.heap.size + 1 + 1 + 1 + 1 + 1, 0, none⟩)]) rfl trivial (enters_of Try.func39 (by kernel_rfl) rfl)
    (chunk_stops 2 (by decide) (w.heap.size + 1 + 1 + 1 + 1) (w.heap.size + 1 + 1 + 1 + 1 + 1) len cap c b off a hcap (by omega) hA qc1 qc2 W0 (by rw [HS0.out]; omega) (by rw [HS0.out]; omega) hBs hBn) keepV_t (keepV_b (by rw [HS0.out]; omega) (by rw [HS0.out]; omega)) (Below.refl _ _) (fun _ => rfl)
    (fun (pre : List (Ix c len)) W => (∃ vo vr rs, Hd w.heap.size vo vr vo pre.length (rows rs) vr pre.length (ints (capX pre)) rs (conX zs pre) W W) ∧ Below w.heap.size w W ∧ (∀ k, k < w.heap.size + 6 → k ≠ w.heap.size + 1 → k ≠ w.heap.size + 1 + 1 → W.heap[k]? = W0.heap[k]?) ∧ (most < 0 ∨ (pre.length : Int) ≤ most))
    (fun cd p W => cd = .exit 0 ∧ ∃ (pre : List (Ix c len)) (y : Ix c len), p = pre ++ [y] ∧ (∃ vo vr rs, Hd w.heap.size vo vr vo pre.length (rows rs) vr pre.length (ints (capX pre)) rs (conX zs pre) W W) ∧ Below w.heap.size w W ∧ (∀ k, k < w.heap.size + 6 → k ≠ w.heap.size + 1 → k ≠ w.heap.size + 1 + 1 → W.heap[k]? = W0.heap[k]?) ∧ (pre.length : Int) = most)
    ?hI ?hIx ⟨⟨_, _, [], hd0⟩, hB0, fun _ _ _ _ => rfl, by simp; omega⟩
    (fun y => { tmps := #[.slice a len cap, .int .i64 c, .int .i64 most, undef, undef, .pointer (some ⟨w.heap.size, 0, none⟩), .pointer (some ⟨w.heap.size + 1, 0, none⟩), .pointer (some ⟨w.heap.size + 1 + 1, 0, none⟩), .pointer (some ⟨w.heap.size + 1 + 1 + 1, 0, none⟩), .slice (some ⟨b, off + y.1 * c, none⟩) (chL c len y.1) (chL c len y.1), .func (.func 28) #[] #[.pointer (some ⟨w.heap.size + 1, 0, none⟩), .pointer (some ⟨w.heap.size + 1 + 1, 0, none⟩), .pointer (some ⟨w.heap.size + 1 + 1 + 1, 0, none⟩)], .slice a len cap, .int .i64 c, .func (.func 39) #[] #[.pointer (some ⟨w.heap.size + 1 + 1 + 1 + 1, 0, none⟩), .pointer (some ⟨w.heap.size + 1 + 1 + 1 + 1 + 1, 0, none⟩)], .slice (some ⟨b, off + y.1 * c, none⟩) (chL c len y.1) (chL c len y.1), undef, undef, undef, undef, undef, undef, undef, undef, undef, undef, undef, undef, undef, undef, undef, undef], defers := [] }) ?assign ?body ?done ?stop
  case hI =>
    rintro s X Y row ⟨⟨vo, vr, rs, hd⟩, hB, hkb, hm⟩ hg hr
    exact ⟨⟨vo, vr, rs, hd.nc hg (fun r e => (hr r e).2)⟩, hB.grown hg (by have := hd.h6; omega) (fun k e => by have := (hr k e).1; rw [HS0.out] at this; omega), fun k hk h1 h2 => (hg.block k (by have := hd.h6; omega) (fun e => by have := (hr k e.symm).1; rw [HS0.out] at this; omega)).trans (hkb k hk h1 h2), hm⟩
  case hIx =>
    rintro cd s X Y row ⟨rfl, pre, y, rfl, ⟨vo, vr, rs, hd⟩, hB, hkb, hm⟩ hg hr
    exact ⟨rfl, pre, y, rfl, ⟨vo, vr, rs, hd.nc hg (fun r e => (hr r e).2)⟩, hB.grown hg (by have := hd.h6; omega) (fun k e => by have := (hr k e).1; rw [HS0.out] at this; omega), fun k hk h1 h2 => (hg.block k (by have := hd.h6; omega) (fun e => by have := (hr k e.symm).1; rw [HS0.out] at this; omega)).trans (hkb k hk h1 h2), hm⟩
  case assign =>
    intro l y W K hK
    simp only [chEnc]
    gi_wp2
    exact hK
  case body =>
    rintro l pre y W ⟨⟨vo, vr, rs, hd⟩, hB, hkb, hm⟩ hlt
    obtain ⟨Ao, co, rfl⟩ := own_slice hd.ro
    obtain ⟨Ar, cr, rfl⟩ := own_slice hd.rr
    have hco := hd.bo.cell
    have hcr := hd.br.cell
    have hcm := (World.cell?_of_block (a := ⟨w.heap.size, 0, none⟩) (hkb w.heap.size (by omega) (by omega) (by omega))).trans hcM
    by_cases hmo : (pre.length : Int) = most
    · have hmo' : ((pre.length : Int) == most) = true := by simpa using hmo
      have HM := hide hmo
      clear hmo
      gi_wp2
      exact ⟨KeepsFrom.refl _ _, rfl, pre, y, rfl, ⟨_, _, rs, hd⟩, hB, hkb, HM.out⟩
    · have hmo' : ((pre.length : Int) == most) = false := by simpa using hmo
      have HM : Hid (most < 0 ∨ ((pre.length + 1 : Nat) : Int) ≤ most) := by
        rcases hm with h | h
        · exact .inl h
        · exact .inr (by omega)
      clear hmo hm
      obtain ⟨m, hmm⟩ : ∃ m, chL c len y.1 = m := ⟨_, rfl⟩
      obtain ⟨s, hs⟩ : ∃ s, y.1 * c = s := ⟨_, rfl⟩
      have hsl : s < len := by rw [← hs]; exact y.2
      have hm1 : 0 < m := by rw [← hmm, chL, hs]; split <;> omega
      have hm2 : s + m ≤ len := by rw [← hmm, chL, hs]; split <;> omega
      rw [hmm, hs]
      obtain rfl := hA (by omega)
      have hsub := (hI.below hB).sub (s := s) (m := m) hm2
      have hcz : chAt c zs y.1 = (zs.drop s).take m := by unfold chAt; rw [HZ.out, hmm, hs]
      obtain ⟨Z, hZ⟩ : ∃ Z, (zs.drop s).take m = Z := ⟨_, rfl⟩
      rw [hZ] at hsub hcz
      have HCZ := hide hcz
      have HCP : Hid (capX (pre ++ [y]) = capX pre ++ [(m : Int)]) := by rw [capX_snoc, hmm]; rfl
      clear hmm hs hcz hZ
      gi_wp2
      -- REGION-BEGIN
      refine wpIn_region_E (fun w' => w'.cell? ⟨w.heap.size + 1, 0, none⟩ = some (.slice Ao pre.length co) ∧ w'.cell? ⟨w.heap.size + 1 + 1, 0, none⟩ = some (.slice Ar pre.length cr)) [10, 11] (by kernel_rfl) (noDef_all (by kernel_rfl)) (by rintro ⟨a', w', h⟩; exact h) ?_
      have hd1 := hd.none (w'' := W.drew) ⟨rfl, rfl, rfl, Nat.le_refl _, fun _ _ _ => rfl⟩
      have hr1 : Rd W w.heap.size 1 (some ⟨b, off + s, none⟩) m (ints Z) := hsub
      have hvo : ∀ g, (Value.slice Ao pre.length co).ownBlock = some g → g < W.heap.size := fun g e => (own_block_lt hd.ro g e).2.1
      have hvr : ∀ g, (Value.slice Ar pre.length cr).ownBlock = some g → g < W.heap.size := fun g e => (own_block_lt hd.rr g e).2.1
      obtain ⟨X, hX⟩ : ∃ X, X = W.drew := ⟨_, rfl⟩
      rw [← hX] at hd1 ⊢
      clear hX
      have hS : X.cell? ⟨w.heap.size + 1, 0, none⟩ = some (.slice Ao pre.length co) ∧ X.cell? ⟨w.heap.size + 1 + 1, 0, none⟩ = some (.slice Ar pre.length cr) := ⟨hd1.bo.cell, hd1.br.cell⟩
      refine wpAnyE_take (i := 0) [] 0 (v := (.slice Ao pre.length co)) rfl (by kernel_rfl) (by kernel_rfl) (by kernel_rfl) (by kernel_rfl) (by kernel_rfl) (by kernel_rfl) (by kernel_rfl) (fun _ _ _ h => h) (Or.inl ⟨by rfl, by (intro w' hSw; obtain ⟨s1, s2⟩ := hSw; go_simp)⟩) hS ?_
      try simp only [Act.put, List.setIfInBounds_toArray, List.set_cons_zero, List.set_cons_succ]
      refine wpAnyE_take (i := 1) [] 1 (v := .slice (some ⟨b, off + s, none⟩) m m) rfl (by kernel_rfl) (by kernel_rfl) (by kernel_rfl) (by kernel_rfl) (by kernel_rfl) (by kernel_rfl) (by kernel_rfl) (fun _ _ _ h => h) (Or.inl ⟨by rfl, by (intro w' hSw; obtain ⟨s1, s2⟩ := hSw; go_simp)⟩) hS ?_
      try simp only [Act.put, List.setIfInBounds_toArray, List.set_cons_zero, List.set_cons_succ]
      refine wpAnyE_take (i := 5) [9] 9 (v := (.slice Ar pre.length cr)) rfl (by kernel_rfl) (by kernel_rfl) (by kernel_rfl) (by kernel_rfl) (by kernel_rfl) (by kernel_rfl) (by kernel_rfl) (fun _ _ _ h => h) (Or.inl ⟨by rfl, by (intro w' hSw; obtain ⟨s1, s2⟩ := hSw; go_simp)⟩) hS ?_
      try simp only [Act.put, List.setIfInBounds_toArray, List.set_cons_zero, List.set_cons_succ]
      refine wpAnyE_take (i := 6) [7, 8, 9] 9 (v := .slice (some ⟨b, off + s, none⟩) m m) rfl (by kernel_rfl) (by kernel_rfl) (by kernel_rfl) (by kernel_rfl) (by kernel_rfl) (by kernel_rfl) (by kernel_rfl) (fun _ _ _ h => h) (Or.inl ⟨by rfl, by (intro w' hSw; obtain ⟨s1, s2⟩ := hSw; go_simp)⟩) hS ?_
      try simp only [Act.put, List.setIfInBounds_toArray, List.set_cons_zero, List.set_cons_succ]
      refine wpAnyE_take (i := 7) [8, 9] 9 (v := .int .i64 (m : Int)) rfl (by kernel_rfl) (by kernel_rfl) (by kernel_rfl) (by kernel_rfl) (by kernel_rfl) (by kernel_rfl) (by kernel_rfl) (fun _ _ _ h => h) (Or.inl ⟨by rfl, by (intro w' hSw; obtain ⟨s1, s2⟩ := hSw; go_simp)⟩) hS ?_
      try simp only [Act.put, List.setIfInBounds_toArray, List.set_cons_zero, List.set_cons_succ]
      clear hS
      refine wpAnyE_two (i := 2) (j := 8) (by kernel_rfl) rfl rfl (fun K HK => ?_) (fun K HK => ?_)
      · refine step_append_rd rfl _ _ 22 rfl (X).heap.size 3 i0 (.int .i64 0) 1 8 Try.underlying22 hi hz0 hz1 hz2 rfl (by decide) (.slice none 0 0) 0 [] (by rfl) (World.ownsRow_nil _ _ _ _) w.heap.size (some ⟨b, off + s, none⟩) m m (ints Z) (by rfl) (hr1.belowD hd1.bl) (ints_one _) (by unfold maxLen; omega) (by omega) (Nat.le_refl _) ?_
        intro v2 w2 own2 hg2
        simp only [Nat.zero_add, List.nil_append] at own2
        obtain ⟨g2, c2, rfl, hg2b⟩ := own_some own2 hm1
        have hdw2 := hd1.none hg2
        have own2 := own_base own2 (show w.heap.size + 6 ≤ (X).heap.size by have := hd1.hs; have := hd1.h6; omega)
        have hg2W : W.heap.size ≤ g2 := by have := hd1.hs; omega
        clear hg2 hg2b
        refine HK.out _ _ (fun _ => ⟨hdw2.bo.cell, hdw2.br.cell⟩) ?_
        clear HK K
        try simp only [Act.put, List.setIfInBounds_toArray, List.set_cons_zero, List.set_cons_succ]
        refine wpAnyE_two (i := 3) (j := 8) (by kernel_rfl) rfl rfl (fun K HK => ?_) (fun K HK => ?_)
        · go_simp
          obtain ⟨w3, hw3⟩ : ∃ w3, w3 = (w2).alloc (.cells #[.slice (some ⟨g2, 0, none⟩) m c2] 22) := ⟨_, rfl⟩
          rw [← hw3]
          have hdw3 := hdw2.none (World.grownBy_alloc (w2) (.cells #[.slice (some ⟨g2, 0, none⟩) m c2] 22) none)
          rw [← hw3] at hdw3
          have bx3 : Boxed w3 (w2).heap.size 22 (.slice (some ⟨g2, 0, none⟩) m c2) := by rw [hw3]; exact Boxed.new _ _ _
          have own2 := own2.alloc (.cells #[.slice (some ⟨g2, 0, none⟩) m c2] 22)
          rw [← hw3] at own2
          have hg3 : W.heap.size ≤ (w2).heap.size := hdw2.hs
          clear hw3
          refine HK.out _ _ (fun _ => ⟨hdw3.bo.cell, hdw3.br.cell⟩) ?_
          clear HK K
          try simp only [Act.put, List.setIfInBounds_toArray, List.set_cons_zero, List.set_cons_succ]
          refine wpAnyE_two (i := 4) (j := 8) (by kernel_rfl) rfl rfl (fun K HK => ?_) (fun K HK => ?_)
          · refine step_append_at rfl _ _ 23 rfl (w.heap.size + 6) 22 j0 (.slice none 0 0) 1 24 Try.underlying23 hj hy0 hy1 hy2 rfl (by decide) (.slice Ao pre.length co) pre.length (rows rs) (by rfl) hdw3.ro ⟨_, 0, none⟩ 1 1 [.slice (some ⟨g2, 0, none⟩) m c2] (by rfl) rfl (one_cell bx3) (by simp [Value.oneCell']) (by unfold maxLen; omega) (by omega) (by have := hdw3.hs; have := hdw3.h6; omega) ?_
            intro vo' w4 own4 hg4 _
            have own2 := own2.kept hg4 (own_apart own2 hdw3.ro (by decide))
            have hdw4 := hdw3.out hg4 own4
            obtain ⟨go, cp, rfl⟩ := ownsRow_succ own4
            clear hg4 own4
            refine HK.out _ _ (fun _ => ⟨hdw4.bo.cell, hdw4.br.cell⟩) ?_
            clear HK K
            try simp only [Act.put, List.setIfInBounds_toArray, List.set_cons_zero, List.set_cons_succ]
            refine wpAnyE_one (i := 8) (by kernel_rfl) rfl (fun K HK => ?_)
            go_simp
            obtain ⟨w8, hw8⟩ : ∃ w8, w8 = (w4).alloc (.cells #[.int .i64 (m : Int)] 3) := ⟨_, rfl⟩
            rw [← hw8]
            have hdw8 := hdw4.none (World.grownBy_alloc (w4) (.cells #[.int .i64 (m : Int)] 3) none)
            rw [← hw8] at hdw8
            have bx8 : Boxed w8 (w4).heap.size 3 (.int .i64 (m : Int)) := by rw [hw8]; exact Boxed.new _ _ _
            have hg8 : W.heap.size ≤ (w4).heap.size := hdw4.hs
            have own2 := own2.alloc (.cells #[.int .i64 (m : Int)] 3)
            rw [← hw8] at own2
            clear hw8
            refine HK.out _ _ (fun _ => ⟨hdw8.bo.cell, hdw8.br.cell⟩) ?_
            clear HK K
            try simp only [Act.put, List.setIfInBounds_toArray, List.set_cons_zero, List.set_cons_succ]
            have hg2E : g2 < w8.heap.size := (own_block_lt own2 g2 rfl).2.1
            have hdE := hdw8
            refine wpAnyE_one (i := 9) (by kernel_rfl) rfl (fun K HK => ?_)
            refine step_append_at rfl _ _ 22 rfl (w.heap.size + 6) 3 i0 (.int .i64 0) 1 8 Try.underlying22 hi hz0 hz1 hz2 rfl (by decide) (.slice Ar pre.length cr) pre.length (ints (capX pre)) (by rfl) hdE.rr ⟨_, 0, none⟩ 1 1 [.int .i64 (m : Int)] (by rfl) rfl (one_cell bx8) (by simp [Value.oneCell']) (by unfold maxLen; omega) (by omega) (by have := hdE.hs; have := hdE.h6; omega) ?_
            intro vr' w9 own9 hg9 hat9
            have own2 := own2.kept hg9 (.inr (fun e => by have := hvr g2 e.symm; omega))
            have hd9 := hdE.room hg9 own9 hat9
            obtain ⟨gr, cpr, rfl⟩ := ownsRow_succ own9
            have hgr : (Value.slice (some ⟨gr, 0, none⟩) (pre.length + 1) cpr).ownBlock ≠ some g2 := by
              rcases hat9 with h | h
              · rw [h]; intro e; have := hvr g2 e; omega
              · rw [h]; intro e; simp at e; omega
            have hg2s : g2 < w9.heap.size := Nat.lt_of_lt_of_le hg2E hg9.size
            clear hg9 own9 hat9
            refine HK.out _ _ (fun _ => ⟨hd9.bo.cell, hd9.br.cell⟩) ?_
            clear HK K
            try simp only [Act.put, List.setIfInBounds_toArray, List.set_cons_zero, List.set_cons_succ]
            refine wpAnyE_one (i := 10) (by kernel_rfl) rfl (fun K HK => ?_)
            have hc10 := hd9.bo.cell
            have hf10 := hd9.bo.frozen
            go_simp
            refine HK.out _ _ (fun h => absurd (by simp) h) ?_
            clear HK K
            try simp only [Act.put, List.setIfInBounds_toArray, List.set_cons_zero, List.set_cons_succ]
            refine wpAnyE_one (i := 11) (by kernel_rfl) rfl (fun K HK => ?_)
            have hb11 := hd9.br.other (B' := w.heap.size + 1) (by omega) (.slice (some ⟨go, 0, none⟩) (pre.length + 1) cp)
            have hc11 := hb11.cell
            have hf11 := hb11.frozen
            go_simp
            refine HK.out _ _ (fun h => absurd (by simp) h) ?_
            clear HK K
            try simp only [Act.put, List.setIfInBounds_toArray, List.set_cons_zero, List.set_cons_succ]
            refine wpAnyE_done (by kernel_rfl) ?_ _
            have hdF := hd9.stored own2 rfl hg2s hgr
            rw [← rows_snoc] at hdF
            have hcap2 : ints (capX pre) ++ [.int .i64 (m : Int)] = ints (capX (pre ++ [y])) := by rw [HCP.out]; simp [ints]
            rw [hcap2, ← HCZ.out, ← conX_snoc] at hdF
            refine ⟨hdF.ko.from _, ⟨hdF.kb _ (by omega) (by omega) (by omega), hdF.kb _ (by omega) (by omega) (by omega)⟩, ⟨.slice (some ⟨go, 0, none⟩) (pre.length + 1) cp, .slice (some ⟨gr, 0, none⟩) (pre.length + 1) cpr, rs ++ [(some ⟨g2, 0, none⟩, m, c2)], ?_⟩, hB.trans hdF.bl, fun k hk h1 h2 => (hdF.kb k hk h1 h2).trans (hkb k hk h1 h2), ?_⟩
            · rw [show (pre ++ [y]).length = pre.length + 1 by simp]; exact hdF.self
            · rw [show (pre ++ [y]).length = pre.length + 1 by simp]; exact HM.out
          · go_simp
            obtain ⟨w8, hw8⟩ : ∃ w8, w8 = (w3).alloc (.cells #[.int .i64 (m : Int)] 3) := ⟨_, rfl⟩
            rw [← hw8]
            have hdw8 := hdw3.none (World.grownBy_alloc (w3) (.cells #[.int .i64 (m : Int)] 3) none)
            rw [← hw8] at hdw8
            have bx8 : Boxed w8 (w3).heap.size 3 (.int .i64 (m : Int)) := by rw [hw8]; exact Boxed.new _ _ _
            have hg8 : W.heap.size ≤ (w3).heap.size := hdw3.hs
            have own2 := own2.alloc (.cells #[.int .i64 (m : Int)] 3)
            rw [← hw8] at own2
            have bx3 := bx3.alloc (.cells #[.int .i64 (m : Int)] 3)
            rw [← hw8] at bx3
            clear hw8
            refine HK.out _ _ (fun _ => ⟨hdw8.bo.cell, hdw8.br.cell⟩) ?_
            clear HK K
            try simp only [Act.put, List.setIfInBounds_toArray, List.set_cons_zero, List.set_cons_succ]
            refine wpAnyE_one (i := 4) (by kernel_rfl) rfl (fun K HK => ?_)
            refine step_append_at rfl _ _ 23 rfl (w.heap.size + 6) 22 j0 (.slice none 0 0) 1 24 Try.underlying23 hj hy0 hy1 hy2 rfl (by decide) (.slice Ao pre.length co) pre.length (rows rs) (by rfl) hdw8.ro ⟨_, 0, none⟩ 1 1 [.slice (some ⟨g2, 0, none⟩) m c2] (by rfl) rfl (one_cell bx3) (by simp [Value.oneCell']) (by unfold maxLen; omega) (by omega) (by have := hdw8.hs; have := hdw8.h6; omega) ?_
            intro vo' w4 own4 hg4 _
            have own2 := own2.kept hg4 (own_apart own2 hdw8.ro (by decide))
            have hdw4 := hdw8.out hg4 own4
            have bx8 := bx8.kept hg4 (fun e => by have := hvo _ e.symm; omega)
            obtain ⟨go, cp, rfl⟩ := ownsRow_succ own4
            clear hg4 own4
            refine HK.out _ _ (fun _ => ⟨hdw4.bo.cell, hdw4.br.cell⟩) ?_
            clear HK K
            try simp only [Act.put, List.setIfInBounds_toArray, List.set_cons_zero, List.set_cons_succ]
            have hg2E : g2 < w4.heap.size := (own_block_lt own2 g2 rfl).2.1
            have hdE := hdw4
            refine wpAnyE_one (i := 9) (by kernel_rfl) rfl (fun K HK => ?_)
            refine step_append_at rfl _ _ 22 rfl (w.heap.size + 6) 3 i0 (.int .i64 0) 1 8 Try.underlying22 hi hz0 hz1 hz2 rfl (by decide) (.slice Ar pre.length cr) pre.length (ints (capX pre)) (by rfl) hdE.rr ⟨_, 0, none⟩ 1 1 [.int .i64 (m : Int)] (by rfl) rfl (one_cell bx8) (by simp [Value.oneCell']) (by unfold maxLen; omega) (by omega) (by have := hdE.hs; have := hdE.h6; omega) ?_
            intro vr' w9 own9 hg9 hat9
            have own2 := own2.kept hg9 (.inr (fun e => by have := hvr g2 e.symm; omega))
            have hd9 := hdE.room hg9 own9 hat9
            obtain ⟨gr, cpr, rfl⟩ := ownsRow_succ own9
            have hgr : (Value.slice (some ⟨gr, 0, none⟩) (pre.length + 1) cpr).ownBlock ≠ some g2 := by
              rcases hat9 with h | h
              · rw [h]; intro e; have := hvr g2 e; omega
              · rw [h]; intro e; simp at e; omega
            have hg2s : g2 < w9.heap.size := Nat.lt_of_lt_of_le hg2E hg9.size
            clear hg9 own9 hat9
            refine HK.out _ _ (fun _ => ⟨hd9.bo.cell, hd9.br.cell⟩) ?_
            clear HK K
            try simp only [Act.put, List.setIfInBounds_toArray, List.set_cons_zero, List.set_cons_succ]
            refine wpAnyE_one (i := 10) (by kernel_rfl) rfl (fun K HK => ?_)
            have hc10 := hd9.bo.cell
            have hf10 := hd9.bo.frozen
            go_simp
            refine HK.out _ _ (fun h => absurd (by simp) h) ?_
            clear HK K
            try simp only [Act.put, List.setIfInBounds_toArray, List.set_cons_zero, List.set_cons_succ]
            refine wpAnyE_one (i := 11) (by kernel_rfl) rfl (fun K HK => ?_)
            have hb11 := hd9.br.other (B' := w.heap.size + 1) (by omega) (.slice (some ⟨go, 0, none⟩) (pre.length + 1) cp)
            have hc11 := hb11.cell
            have hf11 := hb11.frozen
            go_simp
            refine HK.out _ _ (fun h => absurd (by simp) h) ?_
            clear HK K
            try simp only [Act.put, List.setIfInBounds_toArray, List.set_cons_zero, List.set_cons_succ]
            refine wpAnyE_done (by kernel_rfl) ?_ _
            have hdF := hd9.stored own2 rfl hg2s hgr
            rw [← rows_snoc] at hdF
            have hcap2 : ints (capX pre) ++ [.int .i64 (m : Int)] = ints (capX (pre ++ [y])) := by rw [HCP.out]; simp [ints]
            rw [hcap2, ← HCZ.out, ← conX_snoc] at hdF
            refine ⟨hdF.ko.from _, ⟨hdF.kb _ (by omega) (by omega) (by omega), hdF.kb _ (by omega) (by omega) (by omega)⟩, ⟨.slice (some ⟨go, 0, none⟩) (pre.length + 1) cp, .slice (some ⟨gr, 0, none⟩) (pre.length + 1) cpr, rs ++ [(some ⟨g2, 0, none⟩, m, c2)], ?_⟩, hB.trans hdF.bl, fun k hk h1 h2 => (hdF.kb k hk h1 h2).trans (hkb k hk h1 h2), ?_⟩
            · rw [show (pre ++ [y]).length = pre.length + 1 by simp]; exact hdF.self
            · rw [show (pre ++ [y]).length = pre.length + 1 by simp]; exact HM.out
        · go_simp
          obtain ⟨w8, hw8⟩ : ∃ w8, w8 = (w2).alloc (.cells #[.int .i64 (m : Int)] 3) := ⟨_, rfl⟩
          rw [← hw8]
          have hdw8 := hdw2.none (World.grownBy_alloc (w2) (.cells #[.int .i64 (m : Int)] 3) none)
          rw [← hw8] at hdw8
          have bx8 : Boxed w8 (w2).heap.size 3 (.int .i64 (m : Int)) := by rw [hw8]; exact Boxed.new _ _ _
          have hg8 : W.heap.size ≤ (w2).heap.size := hdw2.hs
          have own2 := own2.alloc (.cells #[.int .i64 (m : Int)] 3)
          rw [← hw8] at own2
          clear hw8
          refine HK.out _ _ (fun _ => ⟨hdw8.bo.cell, hdw8.br.cell⟩) ?_
          clear HK K
          try simp only [Act.put, List.setIfInBounds_toArray, List.set_cons_zero, List.set_cons_succ]
          refine wpAnyE_one (i := 3) (by kernel_rfl) rfl (fun K HK => ?_)
          go_simp
          obtain ⟨w3, hw3⟩ : ∃ w3, w3 = (w8).alloc (.cells #[.slice (some ⟨g2, 0, none⟩) m c2] 22) := ⟨_, rfl⟩
          rw [← hw3]
          have hdw3 := hdw8.none (World.grownBy_alloc (w8) (.cells #[.slice (some ⟨g2, 0, none⟩) m c2] 22) none)
          rw [← hw3] at hdw3
          have bx3 : Boxed w3 (w8).heap.size 22 (.slice (some ⟨g2, 0, none⟩) m c2) := by rw [hw3]; exact Boxed.new _ _ _
          have own2 := own2.alloc (.cells #[.slice (some ⟨g2, 0, none⟩) m c2] 22)
          rw [← hw3] at own2
          have hg3 : W.heap.size ≤ (w8).heap.size := hdw8.hs
          have bx8 := bx8.alloc (.cells #[.slice (some ⟨g2, 0, none⟩) m c2] 22)
          rw [← hw3] at bx8
          clear hw3
          refine HK.out _ _ (fun _ => ⟨hdw3.bo.cell, hdw3.br.cell⟩) ?_
          clear HK K
          try simp only [Act.put, List.setIfInBounds_toArray, List.set_cons_zero, List.set_cons_succ]
          refine wpAnyE_one (i := 4) (by kernel_rfl) rfl (fun K HK => ?_)
          refine step_append_at rfl _ _ 23 rfl (w.heap.size + 6) 22 j0 (.slice none 0 0) 1 24 Try.underlying23 hj hy0 hy1 hy2 rfl (by decide) (.slice Ao pre.length co) pre.length (rows rs) (by rfl) hdw3.ro ⟨_, 0, none⟩ 1 1 [.slice (some ⟨g2, 0, none⟩) m c2] (by rfl) rfl (one_cell bx3) (by simp [Value.oneCell']) (by unfold maxLen; omega) (by omega) (by have := hdw3.hs; have := hdw3.h6; omega) ?_
          intro vo' w4 own4 hg4 _
          have own2 := own2.kept hg4 (own_apart own2 hdw3.ro (by decide))
          have hdw4 := hdw3.out hg4 own4
          have bx8 := bx8.kept hg4 (fun e => by have := hvo _ e.symm; omega)
          obtain ⟨go, cp, rfl⟩ := ownsRow_succ own4
          clear hg4 own4
          refine HK.out _ _ (fun _ => ⟨hdw4.bo.cell, hdw4.br.cell⟩) ?_
          clear HK K
          try simp only [Act.put, List.setIfInBounds_toArray, List.set_cons_zero, List.set_cons_succ]
          have hg2E : g2 < w4.heap.size := (own_block_lt own2 g2 rfl).2.1
          have hdE := hdw4
          refine wpAnyE_one (i := 9) (by kernel_rfl) rfl (fun K HK => ?_)
          refine step_append_at rfl _ _ 22 rfl (w.heap.size + 6) 3 i0 (.int .i64 0) 1 8 Try.underlying22 hi hz0 hz1 hz2 rfl (by decide) (.slice Ar pre.length cr) pre.length (ints (capX pre)) (by rfl) hdE.rr ⟨_, 0, none⟩ 1 1 [.int .i64 (m : Int)] (by rfl) rfl (one_cell bx8) (by simp [Value.oneCell']) (by unfold maxLen; omega) (by omega) (by have := hdE.hs; have := hdE.h6; omega) ?_
          intro vr' w9 own9 hg9 hat9
          have own2 := own2.kept hg9 (.inr (fun e => by have := hvr g2 e.symm; omega))
          have hd9 := hdE.room hg9 own9 hat9
          obtain ⟨gr, cpr, rfl⟩ := ownsRow_succ own9
          have hgr : (Value.slice (some ⟨gr, 0, none⟩) (pre.length + 1) cpr).ownBlock ≠ some g2 := by
            rcases hat9 with h | h
            · rw [h]; intro e; have := hvr g2 e; omega
            · rw [h]; intro e; simp at e; omega
          have hg2s : g2 < w9.heap.size := Nat.lt_of_lt_of_le hg2E hg9.size
          clear hg9 own9 hat9
          refine HK.out _ _ (fun _ => ⟨hd9.bo.cell, hd9.br.cell⟩) ?_
          clear HK K
          try simp only [Act.put, List.setIfInBounds_toArray, List.set_cons_zero, List.set_cons_succ]
          refine wpAnyE_one (i := 10) (by kernel_rfl) rfl (fun K HK => ?_)
          have hc10 := hd9.bo.cell
          have hf10 := hd9.bo.frozen
          go_simp
          refine HK.out _ _ (fun h => absurd (by simp) h) ?_
          clear HK K
          try simp only [Act.put, List.setIfInBounds_toArray, List.set_cons_zero, List.set_cons_succ]
          refine wpAnyE_one (i := 11) (by kernel_rfl) rfl (fun K HK => ?_)
          have hb11 := hd9.br.other (B' := w.heap.size + 1) (by omega) (.slice (some ⟨go, 0, none⟩) (pre.length + 1) cp)
          have hc11 := hb11.cell
          have hf11 := hb11.frozen
          go_simp
          refine HK.out _ _ (fun h => absurd (by simp) h) ?_
          clear HK K
          try simp only [Act.put, List.setIfInBounds_toArray, List.set_cons_zero, List.set_cons_succ]
          refine wpAnyE_done (by kernel_rfl) ?_ _
          have hdF := hd9.stored own2 rfl hg2s hgr
          rw [← rows_snoc] at hdF
          have hcap2 : ints (capX pre) ++ [.int .i64 (m : Int)] = ints (capX (pre ++ [y])) := by rw [HCP.out]; simp [ints]
          rw [hcap2, ← HCZ.out, ← conX_snoc] at hdF
          refine ⟨hdF.ko.from _, ⟨hdF.kb _ (by omega) (by omega) (by omega), hdF.kb _ (by omega) (by omega) (by omega)⟩, ⟨.slice (some ⟨go, 0, none⟩) (pre.length + 1) cp, .slice (some ⟨gr, 0, none⟩) (pre.length + 1) cpr, rs ++ [(some ⟨g2, 0, none⟩, m, c2)], ?_⟩, hB.trans hdF.bl, fun k hk h1 h2 => (hdF.kb k hk h1 h2).trans (hkb k hk h1 h2), ?_⟩
          · rw [show (pre ++ [y]).length = pre.length + 1 by simp]; exact hdF.self
          · rw [show (pre ++ [y]).length = pre.length + 1 by simp]; exact HM.out
      · go_simp
        obtain ⟨w8, hw8⟩ : ∃ w8, w8 = (X).alloc (.cells #[.int .i64 (m : Int)] 3) := ⟨_, rfl⟩
        rw [← hw8]
        have hdw8 := hd1.none (World.grownBy_alloc (X) (.cells #[.int .i64 (m : Int)] 3) none)
        rw [← hw8] at hdw8
        have bx8 : Boxed w8 (X).heap.size 3 (.int .i64 (m : Int)) := by rw [hw8]; exact Boxed.new _ _ _
        have hg8 : W.heap.size ≤ (X).heap.size := hd1.hs
        clear hw8
        refine HK.out _ _ (fun _ => ⟨hdw8.bo.cell, hdw8.br.cell⟩) ?_
        clear HK K
        try simp only [Act.put, List.setIfInBounds_toArray, List.set_cons_zero, List.set_cons_succ]
        refine wpAnyE_one (i := 2) (by kernel_rfl) rfl (fun K HK => ?_)
        refine step_append_rd rfl _ _ 22 rfl (w8).heap.size 3 i0 (.int .i64 0) 1 8 Try.underlying22 hi hz0 hz1 hz2 rfl (by decide) (.slice none 0 0) 0 [] (by rfl) (World.ownsRow_nil _ _ _ _) w.heap.size (some ⟨b, off + s, none⟩) m m (ints Z) (by rfl) (hr1.belowD hdw8.bl) (ints_one _) (by unfold maxLen; omega) (by omega) (Nat.le_refl _) ?_
        intro v2 w2 own2 hg2
        simp only [Nat.zero_add, List.nil_append] at own2
        obtain ⟨g2, c2, rfl, hg2b⟩ := own_some own2 hm1
        have hdw2 := hdw8.none hg2
        have own2 := own_base own2 (show w.heap.size + 6 ≤ (w8).heap.size by have := hdw8.hs; have := hdw8.h6; omega)
        have hg2W : W.heap.size ≤ g2 := by have := hdw8.hs; omega
        have bx8 := bx8.kept hg2 (by simp [Value.ownBlock])
        clear hg2 hg2b
        refine HK.out _ _ (fun _ => ⟨hdw2.bo.cell, hdw2.br.cell⟩) ?_
        clear HK K
        try simp only [Act.put, List.setIfInBounds_toArray, List.set_cons_zero, List.set_cons_succ]
        refine wpAnyE_one (i := 3) (by kernel_rfl) rfl (fun K HK => ?_)
        go_simp
        obtain ⟨w3, hw3⟩ : ∃ w3, w3 = (w2).alloc (.cells #[.slice (some ⟨g2, 0, none⟩) m c2] 22) := ⟨_, rfl⟩
        rw [← hw3]
        have hdw3 := hdw2.none (World.grownBy_alloc (w2) (.cells #[.slice (some ⟨g2, 0, none⟩) m c2] 22) none)
        rw [← hw3] at hdw3
        have bx3 : Boxed w3 (w2).heap.size 22 (.slice (some ⟨g2, 0, none⟩) m c2) := by rw [hw3]; exact Boxed.new _ _ _
        have own2 := own2.alloc (.cells #[.slice (some ⟨g2, 0, none⟩) m c2] 22)
        rw [← hw3] at own2
        have hg3 : W.heap.size ≤ (w2).heap.size := hdw2.hs
        have bx8 := bx8.alloc (.cells #[.slice (some ⟨g2, 0, none⟩) m c2] 22)
        rw [← hw3] at bx8
        clear hw3
        refine HK.out _ _ (fun _ => ⟨hdw3.bo.cell, hdw3.br.cell⟩) ?_
        clear HK K
        try simp only [Act.put, List.setIfInBounds_toArray, List.set_cons_zero, List.set_cons_succ]
        refine wpAnyE_one (i := 4) (by kernel_rfl) rfl (fun K HK => ?_)
        refine step_append_at rfl _ _ 23 rfl (w.heap.size + 6) 22 j0 (.slice none 0 0) 1 24 Try.underlying23 hj hy0 hy1 hy2 rfl (by decide) (.slice Ao pre.length co) pre.length (rows rs) (by rfl) hdw3.ro ⟨_, 0, none⟩ 1 1 [.slice (some ⟨g2, 0, none⟩) m c2] (by rfl) rfl (one_cell bx3) (by simp [Value.oneCell']) (by unfold maxLen; omega) (by omega) (by have := hdw3.hs; have := hdw3.h6; omega) ?_
        intro vo' w4 own4 hg4 _
        have own2 := own2.kept hg4 (own_apart own2 hdw3.ro (by decide))
        have hdw4 := hdw3.out hg4 own4
        have bx8 := bx8.kept hg4 (fun e => by have := hvo _ e.symm; omega)
        obtain ⟨go, cp, rfl⟩ := ownsRow_succ own4
        clear hg4 own4
        refine HK.out _ _ (fun _ => ⟨hdw4.bo.cell, hdw4.br.cell⟩) ?_
        clear HK K
        try simp only [Act.put, List.setIfInBounds_toArray, List.set_cons_zero, List.set_cons_succ]
        have hg2E : g2 < w4.heap.size := (own_block_lt own2 g2 rfl).2.1
        have hdE := hdw4
        refine wpAnyE_one (i := 9) (by kernel_rfl) rfl (fun K HK => ?_)
        refine step_append_at rfl _ _ 22 rfl (w.heap.size + 6) 3 i0 (.int .i64 0) 1 8 Try.underlying22 hi hz0 hz1 hz2 rfl (by decide) (.slice Ar pre.length cr) pre.length (ints (capX pre)) (by rfl) hdE.rr ⟨_, 0, none⟩ 1 1 [.int .i64 (m : Int)] (by rfl) rfl (one_cell bx8) (by simp [Value.oneCell']) (by unfold maxLen; omega) (by omega) (by have := hdE.hs; have := hdE.h6; omega) ?_
        intro vr' w9 own9 hg9 hat9
        have own2 := own2.kept hg9 (.inr (fun e => by have := hvr g2 e.symm; omega))
        have hd9 := hdE.room hg9 own9 hat9
        obtain ⟨gr, cpr, rfl⟩ := ownsRow_succ own9
        have hgr : (Value.slice (some ⟨gr, 0, none⟩) (pre.length + 1) cpr).ownBlock ≠ some g2 := by
          rcases hat9 with h | h
          · rw [h]; intro e; have := hvr g2 e; omega
          · rw [h]; intro e; simp at e; omega
        have hg2s : g2 < w9.heap.size := Nat.lt_of_lt_of_le hg2E hg9.size
        clear hg9 own9 hat9
        refine HK.out _ _ (fun _ => ⟨hd9.bo.cell, hd9.br.cell⟩) ?_
        clear HK K
        try simp only [Act.put, List.setIfInBounds_toArray, List.set_cons_zero, List.set_cons_succ]
        refine wpAnyE_one (i := 10) (by kernel_rfl) rfl (fun K HK => ?_)
        have hc10 := hd9.bo.cell
        have hf10 := hd9.bo.frozen
        go_simp
        refine HK.out _ _ (fun h => absurd (by simp) h) ?_
        clear HK K
        try simp only [Act.put, List.setIfInBounds_toArray, List.set_cons_zero, List.set_cons_succ]
        refine wpAnyE_one (i := 11) (by kernel_rfl) rfl (fun K HK => ?_)
        have hb11 := hd9.br.other (B' := w.heap.size + 1) (by omega) (.slice (some ⟨go, 0, none⟩) (pre.length + 1) cp)
        have hc11 := hb11.cell
        have hf11 := hb11.frozen
        go_simp
        refine HK.out _ _ (fun h => absurd (by simp) h) ?_
        clear HK K
        try simp only [Act.put, List.setIfInBounds_toArray, List.set_cons_zero, List.set_cons_succ]
        refine wpAnyE_done (by kernel_rfl) ?_ _
        have hdF := hd9.stored own2 rfl hg2s hgr
        rw [← rows_snoc] at hdF
        have hcap2 : ints (capX pre) ++ [.int .i64 (m : Int)] = ints (capX (pre ++ [y])) := by rw [HCP.out]; simp [ints]
        rw [hcap2, ← HCZ.out, ← conX_snoc] at hdF
        refine ⟨hdF.ko.from _, ⟨hdF.kb _ (by omega) (by omega) (by omega), hdF.kb _ (by omega) (by omega) (by omega)⟩, ⟨.slice (some ⟨go, 0, none⟩) (pre.length + 1) cp, .slice (some ⟨gr, 0, none⟩) (pre.length + 1) cpr, rs ++ [(some ⟨g2, 0, none⟩, m, c2)], ?_⟩, hB.trans hdF.bl, fun k hk h1 h2 => (hdF.kb k hk h1 h2).trans (hkb k hk h1 h2), ?_⟩
        · rw [show (pre ++ [y]).length = pre.length + 1 by simp]; exact hdF.self
        · rw [show (pre ++ [y]).length = pre.length + 1 by simp]; exact HM.out
      -- REGION-END
  case done =>
    rintro D ys W hD hS ⟨⟨vo, vr, rs, hd⟩, hB, hkb, hm⟩ hK
    have hyl : ys.length = nCh c len := by have := congrArg List.length hS; simpa using this
    have HIX : Hid (ixn ys = List.range ys.length) := by show _ = _; rw [hyl]; exact hS
    have HKK : Hid (K = ys.length) := by
      show _ = _
      rw [← HK.out, hyl]
      unfold firstN
      split
      · rcases hm with h | h <;> omega
      · rfl
    clear hS hyl hm
    have hcon : conX zs ys = chs c zs ys.length := by unfold conX chs; rw [HIX.out]
    have hcpx : capX ys = (List.range ys.length).map fun j => (chL c len j : Int) := by unfold capX; rw [HIX.out]
    rw [hcon, hcpx] at hd
    clear hcon hcpx
    obtain ⟨Ao, co, rfl⟩ := own_slice hd.ro
    obtain ⟨Ar, cr, rfl⟩ := own_slice hd.rr
    obtain ⟨kk, hkk⟩ : ∃ kk, ys.length = kk := ⟨_, rfl⟩
    rw [hkk] at hd
    have hco := hd.bo.cell
    have hcr := hd.br.cell
    have hfo := hd.bo.frozen
    have hfr := hd.br.frozen
    have hcp := (World.cell?_of_block (a := ⟨w.heap.size + 1 + 1 + 1, 0, none⟩) (hkb (w.heap.size + 1 + 1 + 1) (by omega) (by omega) (by omega))).trans hcP
    have hfp : W.frozen? ⟨w.heap.size + 1 + 1 + 1, 0, none⟩ = false := by
      have := hkb (w.heap.size + 1 + 1 + 1) (by omega) (by omega) (by omega)
      unfold World.frozen? at hfP ⊢
      rw [this]; exact hfP
    have hsD : w.heap.size + 6 ≤ D := by rw [← HS0.out]; exact hD
    gi_wp2
    gi_region
    all_goals
      gi_wp2
      obtain ⟨W2, hW2'⟩ : ∃ W2, W2 = (((W.setCell ⟨w.heap.size + 1, 0, none⟩ (.slice Ao kk co)).setCell ⟨w.heap.size + 1 + 1, 0, none⟩ (.slice Ar kk cr)).setCell ⟨w.heap.size + 1 + 1 + 1, 0, none⟩ (.bool false)).drew := ⟨_, rfl⟩
      rw [← hW2']
      have hW2 : W2 = ((W.drew.setCell ⟨w.heap.size + 1, 0, none⟩ (.slice Ao kk co)).setCell ⟨w.heap.size + 1 + 1, 0, none⟩ (.slice Ar kk cr)).setCell ⟨w.heap.size + 1 + 1 + 1, 0, none⟩ (.bool false) := hW2'
      clear hW2'
      obtain ⟨q0, q1, q2, hbW⟩ := set3 (w.heap.size + 1) _ _ _ _ _ _ W.drew hco hcr hcp W2 hW2
      have hK2 : W2.heap[D]? = some (.deferred (some [])) := by rw [hW2]; exact ((((KeepsOthers.drew W).trans (KeepsOthers.setCell _ _ _)).trans (KeepsOthers.setCell _ _ _)).trans (KeepsOthers.setCell _ _ _)).same D _ hK rfl
      have kp : ∀ {e : TypeId} {sz : Nat} {v : Value} {n : Nat} {xs : List Value}, W.ownsRow (w.heap.size + 6) e sz v n xs → W2.ownsRow (w.heap.size + 6) e sz v n xs := fun hr => by
        rw [hW2]
        exact ownsRow_setCell_below (ownsRow_setCell_below (ownsRow_setCell_below (show W.drew.ownsRow _ _ _ _ _ _ from hr) (by show w.heap.size + 1 < _; omega) _) (by show w.heap.size + 1 + 1 < _; omega) _) (by show w.heap.size + 1 + 1 + 1 < _; omega) _
      have hb6 : Below w.heap.size w W2 := (hB.trans (Below.refl _ W).drew).trans (hbW.mono (by omega))
      have x1 := kp hd.ro
      have x2 := kp hd.rr
      have x3 := hd.ra.1.map fun v n xs h => kp h
      clear hW2 hbW kp
      have hbD : Below D W2 (W2.putObj D (.deferred none)) := ⟨rfl, rfl, rfl, (grownBy_putObj' W2 D (.deferred none)).size, fun k hk => (grownBy_putObj' W2 D (.deferred none)).block k (by have := (Array.getElem?_eq_some_iff.1 hK2).1; omega) (fun e => by cases e; omega)⟩
      have x3' := (x3.map (w' := W2.putObj D (.deferred none)) fun v n xs h => ownsRow_putObj h _ hK2 rfl)
      obtain rfl : K = kk := by rw [← hkk]; exact HKK.out
      refine leave_mark hK2 (by simp [go_sem]) (chCatch_idle _ _ _ _ _) ⟨.tuple #[.slice Ao K co, .slice Ar K cr, .bool false], ?_, Ao, co, rs, Ar, cr, rfl, Rd.of_own (ownsRow_putObj x1 _ hK2 rfl), x3'.base (by omega), Rd.of_own (ownsRow_putObj x2 _ hK2 rfl), hb6.trans (hbD.mono (by omega))⟩
      have q0' := ((bcell hbD).1 _ _ (by omega)).trans q0
      have q1' := ((bcell hbD).1 _ _ (by omega)).trans q1
      have q2' := ((bcell hbD).1 _ _ (by omega)).trans q2
      simp [results, Try.results15, go_sem, q0', q1', q2']
  case stop =>
    rintro D cd p W hD ⟨k, hk, hSp⟩ ⟨rfl, pre, y, rfl, ⟨vo, vr, rs, hd⟩, hB, hkb, hm⟩ hK
    have hkl : k = pre.length + 1 := by have := congrArg List.length hSp; simp at this; omega
    have HIX : Hid (ixn pre = List.range pre.length) := by
      show _ = _
      have h1 : ixn (pre ++ [y]) = List.range (pre.length + 1) := by rw [← hkl]; exact hSp
      rw [ixn_snoc, List.range_succ] at h1
      exact (List.append_inj' h1 rfl).1
    have HKK : Hid (K = pre.length) := by
      show _ = _
      rw [← HK.out]
      unfold firstN
      rw [if_pos (by omega)]
      omega
    clear hSp hkl hm hk
    have hcon : conX zs pre = chs c zs pre.length := by unfold conX chs; rw [HIX.out]
    have hcpx : capX pre = (List.range pre.length).map fun j => (chL c len j : Int) := by unfold capX; rw [HIX.out]
    rw [hcon, hcpx] at hd
    clear hcon hcpx
    obtain ⟨Ao, co, rfl⟩ := own_slice hd.ro
    obtain ⟨Ar, cr, rfl⟩ := own_slice hd.rr
    obtain ⟨kk, hkk⟩ : ∃ kk, pre.length = kk := ⟨_, rfl⟩
    rw [hkk] at hd
    have hco := hd.bo.cell
    have hcr := hd.br.cell
    have hfo := hd.bo.frozen
    have hfr := hd.br.frozen
    have hcp := (World.cell?_of_block (a := ⟨w.heap.size + 1 + 1 + 1, 0, none⟩) (hkb (w.heap.size + 1 + 1 + 1) (by omega) (by omega) (by omega))).trans hcP
    have hfp : W.frozen? ⟨w.heap.size + 1 + 1 + 1, 0, none⟩ = false := by
      have := hkb (w.heap.size + 1 + 1 + 1) (by omega) (by omega) (by omega)
      unfold World.frozen? at hfP ⊢
      rw [this]; exact hfP
    have hsD : w.heap.size + 6 ≤ D := by rw [← HS0.out]; exact hD
    gi_wp2
    gi_region
    all_goals
      gi_wp2
      obtain ⟨W2, hW2'⟩ : ∃ W2, W2 = (((W.setCell ⟨w.heap.size + 1, 0, none⟩ (.slice Ao kk co)).setCell ⟨w.heap.size + 1 + 1, 0, none⟩ (.slice Ar kk cr)).setCell ⟨w.heap.size + 1 + 1 + 1, 0, none⟩ (.bool false)).drew := ⟨_, rfl⟩
      rw [← hW2']
      have hW2 : W2 = ((W.drew.setCell ⟨w.heap.size + 1, 0, none⟩ (.slice Ao kk co)).setCell ⟨w.heap.size + 1 + 1, 0, none⟩ (.slice Ar kk cr)).setCell ⟨w.heap.size + 1 + 1 + 1, 0, none⟩ (.bool false) := hW2'
      clear hW2'
      obtain ⟨q0, q1, q2, hbW⟩ := set3 (w.heap.size + 1) _ _ _ _ _ _ W.drew hco hcr hcp W2 hW2
      have hK2 : W2.heap[D]? = some (.deferred (some [])) := by rw [hW2]; exact ((((KeepsOthers.drew W).trans (KeepsOthers.setCell _ _ _)).trans (KeepsOthers.setCell _ _ _)).trans (KeepsOthers.setCell _ _ _)).same D _ hK rfl
      have kp : ∀ {e : TypeId} {sz : Nat} {v : Value} {n : Nat} {xs : List Value}, W.ownsRow (w.heap.size + 6) e sz v n xs → W2.ownsRow (w.heap.size + 6) e sz v n xs := fun hr => by
        rw [hW2]
        exact ownsRow_setCell_below (ownsRow_setCell_below (ownsRow_setCell_below (show W.drew.ownsRow _ _ _ _ _ _ from hr) (by show w.heap.size + 1 < _; omega) _) (by show w.heap.size + 1 + 1 < _; omega) _) (by show w.heap.size + 1 + 1 + 1 < _; omega) _
      have hb6 : Below w.heap.size w W2 := (hB.trans (Below.refl _ W).drew).trans (hbW.mono (by omega))
      have x1 := kp hd.ro
      have x2 := kp hd.rr
      have x3 := hd.ra.1.map fun v n xs h => kp h
      clear hW2 hbW kp
      have hbD : Below D W2 (W2.putObj D (.deferred none)) := ⟨rfl, rfl, rfl, (grownBy_putObj' W2 D (.deferred none)).size, fun k hk => (grownBy_putObj' W2 D (.deferred none)).block k (by have := (Array.getElem?_eq_some_iff.1 hK2).1; omega) (fun e => by cases e; omega)⟩
      have x3' := (x3.map (w' := W2.putObj D (.deferred none)) fun v n xs h => ownsRow_putObj h _ hK2 rfl)
      obtain rfl : K = kk := by rw [← hkk]; exact HKK.out
      refine leave_mark hK2 (by simp [go_sem]) (chCatch_idle _ _ _ _ _) ⟨.tuple #[.slice Ao K co, .slice Ar K cr, .bool false], ?_, Ao, co, rs, Ar, cr, rfl, Rd.of_own (ownsRow_putObj x1 _ hK2 rfl), x3'.base (by omega), Rd.of_own (ownsRow_putObj x2 _ hK2 rfl), hb6.trans (hbD.mono (by omega))⟩
      have q0' := ((bcell hbD).1 _ _ (by omega)).trans q0
      have q1' := ((bcell hbD).1 _ _ (by omega)).trans q1
      have q2' := ((bcell hbD).1 _ _ (by omega)).trans q2
      simp [results, Try.results15, go_sem, q0', q1', q2']
theorem implChunk (a : Option Addr) (len cap : Nat) (zs : List Int) (c : Nat) (most : Int) (hn : len ≤ 4194304) (hcap : len ≤ cap) (qc1 : 1 ≤ c) (qc2 : c ≤ 9223372036854775807) (w : World) (hI : Rd w w.heap.size 1 a len (ints zs)) :
    Calls Try.prog 15 #[.slice a len cap, .int .i64 c, .int .i64 most] w fun e w' => ∃ A ca rs A' cb, e = .returned (.tuple #[.slice A (firstN (nCh c len) most) ca, .slice A' (firstN (nCh c len) most) cb, .bool false]) ∧ Rd w' w'.heap.size 1 A (firstN (nCh c len) most) (rows rs) ∧ RowsRd w' w'.heap.size rs (chs c zs (firstN (nCh c len) most)) ∧ Rd w' w'.heap.size 1 A' (firstN (nCh c len) most) (ints ((List.range (firstN (nCh c len) most)).map fun j => (chL c len j : Int))) ∧ Below w.heap.size w w' :=
  (implChunkO a len cap zs c most hn hcap qc1 qc2 w hI).mono fun e w' ⟨A, ca, rs, A', cb, h1, h2, h3, h4, h5⟩ => ⟨A, ca, rs, A', cb, h1, h2, h3.rd, h4, h5⟩
end Go.Proofs.Ytiihcdoemgmjbaa
