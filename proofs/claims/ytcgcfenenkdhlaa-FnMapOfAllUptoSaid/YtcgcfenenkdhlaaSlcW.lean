/-
  sort.Slice of a slice of entries of the call's own: the calls.
-/
import Derived.Test.YtcgcfenenkdhlaaSlc
namespace Go.Proofs.Ytcgcfenenkdhlaa
open Go.RowKit Go.Sort Go.Shelf
set_option linter.unusedVariables false
set_option linter.unusedSimpArgs false

set_option maxRecDepth 100000 in
set_option maxHeartbeats 4000000 in
theorem less2 (blk off c Bs size : Nat) (W : World) (G : Nat → Int × Int) (hs : W.cell? ⟨Bs, 0, none⟩ = some (.slice (some ⟨blk, off, none⟩) size c))
    (hc : ∀ t, t < size → W.cell? ⟨blk, off + t * 2, none⟩ = some (.int .i64 (G t).1) ∧ W.cell? ⟨blk, off + t * 2 + 1, none⟩ = some (.int .i64 (G t).2)) (i j : Nat) (hi : i < size) (hj : j < size) (_hsz : size < 4611686018427387904) :
    Calls Try.prog 38 #[.int .i64 i, .int .i64 j, .pointer (some ⟨Bs, 0, none⟩)] W fun e w' => e = .returned (.bool (lt2 (G i) (G j))) ∧ ∃ q, w' = W.drewN q := by
  obtain ⟨ci, ci2⟩ := hc i hi
  obtain ⟨cj, cj2⟩ := hc j hj
  obtain ⟨x1, hx1⟩ : ∃ x, (G i).1 = x := ⟨_, rfl⟩
  obtain ⟨y1, hy1⟩ : ∃ x, (G i).2 = x := ⟨_, rfl⟩
  obtain ⟨x2, hx2⟩ : ∃ x, (G j).1 = x := ⟨_, rfl⟩
  obtain ⟨y2, hy2⟩ : ∃ x, (G j).2 = x := ⟨_, rfl⟩
  have hlt : lt2 (G i) (G j) = if x1 < x2 then true else if x1 = x2 then decide (y1 < y2) else false := by unfold lt2; rw [hx1, hx2, hy1, hy2]
  rw [hx1] at ci
  rw [hy1] at ci2
  rw [hx2] at cj
  rw [hy2] at cj2
  rw [hlt]
  clear hlt hx1 hx2 hy1 hy2 hc
  by_cases h1 : x1 < x2
  · rw [if_pos h1]
    go_enter Try.func38, Try.ntmps38
    go_wp2
    go_quiet (fail)
    go_wp2
    go_ret
    exact ⟨rfl, nq, rfl⟩
  · rw [if_neg h1]
    have h1' : decide (x1 < x2) = false := by simpa using h1
    by_cases h2 : x1 = x2
    · rw [if_pos h2]
      have h2' : (x1 == x2) = true := by simpa using h2
      clear h1 h2
      go_enter Try.func38, Try.ntmps38
      go_wp2
      go_quiet (fail)
      go_wp2
      go_ret
      exact ⟨rfl, nq, rfl⟩
    · rw [if_neg h2]
      have h2' : (x1 == x2) = false := by simpa using h2
      clear h1 h2
      go_enter Try.func38, Try.ntmps38
      go_wp2
      go_quiet (fail)
      go_wp2
      go_ret
      exact ⟨rfl, nq, rfl⟩

noncomputable def svT : TypeInfo := (Try.prog.info? 22).get (by kernel_rfl)
noncomputable def svE : TypeInfo := (Try.prog.info? 35).get (by kernel_rfl)
theorem svK (n : Nat) (h2 : 2 ≤ n) : Lib.swapperK n svE 25 = 9 := by
  have a : svE.hasPointers = false := by kernel_rfl
  have b : svE.bytes = 16 := by kernel_rfl
  have c : (n == 0) = false := by simp; omega
  have d : (n == 1) = false := by simp; omega
  simp [Lib.swapperK, a, b, c, d]
/-- what is asked of a closure that compares -/
def LessAt (fL : Nat) (lt : Int × Int → Int × Int → Bool) : Prop := ∀ (blk off c Bs size : Nat) (W : World) (G : Nat → Int × Int), W.cell? ⟨Bs, 0, none⟩ = some (.slice (some ⟨blk, off, none⟩) size c) →
    (∀ t, t < size → W.cell? ⟨blk, off + t * 2, none⟩ = some (.int .i64 (G t).1) ∧ W.cell? ⟨blk, off + t * 2 + 1, none⟩ = some (.int .i64 (G t).2)) → ∀ i j : Nat, i < size → j < size → size < 4611686018427387904 →
    Calls Try.prog fL #[.int .i64 i, .int .i64 j, .pointer (some ⟨Bs, 0, none⟩)] W fun e w' => e = .returned (.bool (lt (G i) (G j))) ∧ ∃ q, w' = W.drewN q
theorem lessAt1 : LessAt 63 lt1 := less1
theorem lessAt2 : LessAt 38 lt2 := less2

theorem sliceCall (fL : Nat) (lt : Int × Int → Int × Int → Bool) (hswo : SWO lt) (hL : LessAt fL lt) (hent : ∀ args w, (callFunc fL args).run Try.prog w = .ok (.enter fL args) w)
    (blk off c Bs : Nat) (d : Array (Int × Int)) (h2 : 2 ≤ d.size) (hsz : d.size < 4611686018427387904) (w : World) (hH : HoldsK encE 2 w blk off d) (hblk : blk < w.heap.size)
    (hBs : w.cell? ⟨Bs, 0, none⟩ = some (.slice (some ⟨blk, off, none⟩) d.size c)) (hB1 : Bs < w.heap.size) (hB2 : Bs ≠ blk) :
    Calls Try.prog 37 #[.iface 22 (.slice (some ⟨blk, off, none⟩) d.size c), .func (.func fL) #[] #[.pointer (some ⟨Bs, 0, none⟩)]] w fun e w' =>
      e = .returned (.tuple #[]) ∧ ∃ d' n os, PermIn 0 d.size d d' ∧ SortedIn lt 0 d.size d' ∧ w' = grow (putRowK encE 2 (Sort.ahead w n) blk off d') os := by
  have hless : LessReadsK Try.prog fL #[.pointer (some ⟨Bs, 0, none⟩)] encE 2 lt blk off d.size w := by
    intro m os dk hs i j hi hj
    have e : sortWorldK encE 2 w blk off m dk os = putRowK encE 2 (grow (Sort.ahead w m) os) blk off dk := by
      unfold sortWorldK; rw [putRowK_grow _ _ (Sort.ahead w m) _ blk off _ hblk]
    have hHg : HoldsK encE 2 (grow (Sort.ahead w m) os) blk off d := holdsK_grow _ _ _ _ blk off d hblk (holdsK_ahead _ _ _ _ _ _ _ hH)
    refine hL blk off c Bs d.size _ (fun t => dk[t]!) ?_ (fun t ht => ⟨?_, ?_⟩) i j hi hj (by omega)
    · rw [e, cell?_putRowK_other _ _ _ blk off dk _ (by exact hB2), cell?_grow _ _ _ (by exact hB1)]; exact hBs
    · rw [e]; exact ((holdsK_putRowK _ _ _ blk off d dk hHg hs).cell (i := t) (c := 0) (by omega) (by omega)).1
    · rw [e]; exact ((holdsK_putRowK _ _ _ blk off d dk hHg hs).cell (i := t) (c := 1) (by omega) (by omega)).1
  exact Any.sort_Slice_cells_sorted Try.laysGg6 22 35 svT svE (by kernel_rfl) (by kernel_rfl) (by kernel_rfl) (by kernel_rfl) 25 (fun _ => by kernel_rfl) encE 2 (fun _ => rfl) (by kernel_rfl) (fun _ => by kernel_rfl)
    (fun x v hv => by simp [encE] at hv; rcases hv with rfl | rfl <;> rfl) lt hswo fL _
    hent blk off c d h2 hsz 74 (by rw [svK _ h2]; kernel_rfl) false
    (fun args W => run_callFunc_extern Try.func74 (by kernel_rfl) (by kernel_rfl) (by kernel_rfl) (e := Extern.ReflectliteSwapper.swap false) (by kernel_rfl) args W) w hless hH hblk

theorem sliceOwn (fL : Nat) (lt : Int × Int → Int × Int → Bool) (hswo : SWO lt) (hL : LessAt fL lt) (hent : ∀ args w, (callFunc fL args).run Try.prog w = .ok (.enter fL args) w)
    (base Bs : Nat) (A : Option Addr) (n c : Nat) (zs : List (Int × Int)) (w : World) (h : w.ownsRow base 35 2 (.slice A n c) n (pairs zs)) (hn : n < 4611686018427387904)
    (hBs : w.cell? ⟨Bs, 0, none⟩ = some (.slice A n c)) (hB1 : Bs < w.heap.size) (hB2 : (Value.slice A n c).ownBlock ≠ some Bs) :
    Calls Try.prog 37 #[.iface 22 (.slice A n c), .func (.func fL) #[] #[.pointer (some ⟨Bs, 0, none⟩)]] w fun e w' =>
      e = .returned (.tuple #[]) ∧ ∃ ts, ts.Perm zs ∧ SortedIn lt 0 ts.length ts.toArray ∧ w'.ownsRow base 35 2 (.slice A n c) n (pairs ts) ∧ w.grownBy w' (Value.slice A n c).ownBlock := by
  have hzl : zs.length = n := by have := h.1; rw [pairs_length] at this; omega
  by_cases h2 : 2 ≤ n
  · rcases h.2 with ⟨hv, h0⟩ | ⟨g, cap, cur, hv, hbase, hheap, hnc, hcm, hcs, htk⟩
    · omega
    · injection hv with e1 _ e3
      subst e1
      subst e3
      subst hzl
      have hH : HoldsK encE 2 w g 0 zs.toArray := by
        unfold HoldsK
        rw [flatE]
        exact holds_of_blockV hheap (by rw [pairs_length]; exact htk)
      refine (sliceCall fL lt hswo hL hent g 0 c Bs zs.toArray (by simpa using h2) (by simpa using hn) w hH (Array.getElem?_eq_some_iff.1 hheap).1 hBs hB1 (fun e => hB2 (by rw [e]; rfl))).mono ?_
      rintro e w' ⟨rfl, d', k, os, hp, hso, rfl⟩
      have hds : d'.size = zs.length := by simpa using hp.1
      have hpe : d'.toList.Perm zs := by simpa using perm_of_permIn hp
      refine ⟨rfl, d'.toList, hpe, ?_, ?_, ?_⟩
      · simpa [hds] using hso
      · unfold putRowK
        rw [flatE]
        exact ownsRow_sortedV (by rw [pairs_length]; simp [hds]) hbase hheap hnc hcm hcs
      · unfold putRowK
        exact grownBy_sortedV _
  · have hf : ∃ f, Try.prog.funcs.findIdx? (·.name == "internal/reflectlite" ++ ".Swapper$" ++ toString (Lib.swapperK n svE 25)) = some f := by
      rcases Nat.lt_or_ge n 1 with h0 | h0
      · obtain rfl : n = 0 := by omega
        exact ⟨66, by kernel_rfl⟩
      · obtain rfl : n = 1 := by omega
        exact ⟨67, by kernel_rfl⟩
    obtain ⟨f, hf⟩ := hf
    refine (Any.sort_Slice_tiny Try.laysGg6 22 35 svT svE (by kernel_rfl) (by kernel_rfl) (by kernel_rfl) (by kernel_rfl) 25 (fun _ => by kernel_rfl) A n c (by omega) f hf (.func fL) #[] #[.pointer (some ⟨Bs, 0, none⟩)] w).mono ?_
    rintro e w' ⟨rfl, os, rfl⟩
    have hgr : w.grownBy (grow w os) (Value.slice A n c).ownBlock := ⟨rfl, rfl, rfl, by simp, fun k hk _ => heap_grow_old _ _ hk⟩
    have hgn : w.grownBy (grow w os) none := ⟨rfl, rfl, rfl, by simp, fun k hk _ => heap_grow_old _ _ hk⟩
    refine ⟨rfl, zs, List.Perm.refl _, ?_, h.kept hgn ?_, hgr⟩
    · intro i j _ hij hj
      rw [hzl] at hj
      omega
    · cases hv : (Value.slice A n c).ownBlock with
      | none => exact .inl rfl
      | some x => exact .inr (by simp)
end Go.Proofs.Ytcgcfenenkdhlaa
