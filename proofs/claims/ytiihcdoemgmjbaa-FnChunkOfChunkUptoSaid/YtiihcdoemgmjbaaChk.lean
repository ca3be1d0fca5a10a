/-
  slices.Chunk: which slices its iterator hands to yield, for every loop body that keeps the two captured variables.
-/
import Derived.RangeFuncNested
import Derived.RangeFuncBox
import Derived.RangeFuncLeaves
import Derived.RangeFuncCalls
import Derived.Shelf.Abstract
import Derived.WalkKit
import Derived.OwnWalkIn
import Derived.TacticsInMore
import Derived.LoopNIn
import Derived.LoopIn
import Derived.RegionIn
import Derived.Outline
import Derived.Deep.DeepMust
import Derived.Test.YtiihcdoemgmjbaaAppR
namespace Go.Proofs.Ytiihcdoemgmjbaa
open Go.RowKit Go.Shelf
set_option linter.unusedVariables false
set_option linter.unusedSimpArgs false
attribute [local go_sem] Oper.semAt_some

/-- how many slices of c elements, the last one maybe shorter -/
def nCh (c len : Nat) : Nat := (len + c - 1) / c
theorem nCh_eq {c len k : Nat} (hc : 1 ≤ c) (h1 : len ≤ k * c) (h2 : k = 0 ∨ (k - 1) * c < len) : nCh c len = k := by
  unfold nCh
  rcases h2 with rfl | h2
  · have : len = 0 := by simpa using h1
    subst this
    exact Nat.div_eq_of_lt (by omega)
  · rcases Nat.eq_zero_or_pos k with rfl | hk
    · have : len = 0 := by simpa using h1
      subst this
      exact Nat.div_eq_of_lt (by omega)
    · obtain ⟨j, rfl⟩ : ∃ j, k = j + 1 := ⟨k - 1, by omega⟩
      simp only [Nat.add_sub_cancel] at h2
      rw [Nat.succ_mul] at h1
      rw [Nat.div_eq_iff (by omega)]
      rw [Nat.succ_mul]
      omega
theorem lt_nCh {c len k : Nat} (hc : 1 ≤ c) (h : k * c < len) : k < nCh c len := by
  unfold nCh
  rw [Nat.lt_div_iff_mul_lt hc]
  have := Nat.mul_comm k c
  omega
theorem nCh_lt {c len k : Nat} (hc : 1 ≤ c) (h : k < nCh c len) : k * c < len := by
  unfold nCh at h
  rw [Nat.lt_div_iff_mul_lt hc] at h
  have := Nat.mul_comm k c
  omega
/-- how long slice j is -/
def chL (c len j : Nat) : Nat := if len - j * c < c then len - j * c else c
/-- the captured variables are as they were -/
def KeepV (Bs Bn : Nat) (W W' : World) : Prop := W'.heap[Bs]? = W.heap[Bs]? ∧ W'.heap[Bn]? = W.heap[Bn]?
theorem KeepV.refl (Bs Bn : Nat) (W : World) : KeepV Bs Bn W W := ⟨rfl, rfl⟩
theorem KeepV.trans {Bs Bn : Nat} {X Y Z : World} (h : KeepV Bs Bn X Y) (k : KeepV Bs Bn Y Z) : KeepV Bs Bn X Z := ⟨k.1.trans h.1, k.2.trans h.2⟩
theorem keepV_t {Bs Bn : Nat} {X Y Z : World} (h : KeepV Bs Bn X Y) (k : KeepV Bs Bn Y Z) : KeepV Bs Bn X Z := h.trans k
theorem keepV_b {Bs Bn : Nat} {w : World} (hs : Bs < w.heap.size) (hn : Bn < w.heap.size) (W : World) (l : Nat) (o o' : Obj) (hl : w.heap.size ≤ l) (h : W.heap[l]? = some o) (_ : o.isCells = false) (_ : o.isWalk = false) : KeepV Bs Bn W (W.putObj l o') :=
  ⟨(grownBy_putObj' W l o').block Bs (by have := (Array.getElem?_eq_some_iff.1 h).1; omega) (fun e => by cases e; omega), (grownBy_putObj' W l o').block Bn (by have := (Array.getElem?_eq_some_iff.1 h).1; omega) (fun e => by cases e; omega)⟩
theorem KeepV.below {Bs Bn n₀ : Nat} {X Y : World} (h : Below n₀ X Y) (hs : Bs < n₀) (hn : Bn < n₀) : KeepV Bs Bn X Y := ⟨h.block _ hs, h.block _ hn⟩
/-- the numbers of the slices -/
abbrev Ix (c len : Nat) := { j : Nat // j * c < len }
def chEnc (b off c len : Nat) (x : Ix c len) : Array Value := #[.slice (some ⟨b, off + x.1 * c, none⟩) (chL c len x.1) (chL c len x.1)]

set_option maxRecDepth 100000 in
set_option maxHeartbeats 2000000 in
theorem chunk1_in (n : Nat) (hn : 1 ≤ n) (l Bs Bn len cap c b off : Nat) (A : Option Addr) (hcap : len ≤ cap) (hreach : len * 8 ≤ 140737488351232) (hA : 0 < len → A = some ⟨b, off, none⟩) (hc1 : 1 ≤ c) (hc2 : c ≤ 9223372036854775807) (J Jx : List (Ix c len) → World → Prop) (hJd : ∀ pre W, J pre W → J pre W.drew)
    (hY : ∀ pre x W, J pre W → pre.length < len → YieldAt Fence.wide (n - 1) Try.prog l (chEnc b off c len x) W fun e W' =>
      (e = .returned (.bool true) ∧ J (pre ++ [x]) W' ∧ KeepV Bs Bn W W') ∨ (e = .returned (.bool false) ∧ Jx (pre ++ [x]) W'))
    (W : World) (hBs : W.cell? ⟨Bs, 0, none⟩ = some (.slice A len cap)) (hBn : W.cell? ⟨Bn, 0, none⟩ = some (.int .i64 c)) (h0 : J [] W) :
    CallsIn Fence.wide n Try.prog 39 #[.func (.yield l) #[] #[], .pointer (some ⟨Bs, 0, none⟩), .pointer (some ⟨Bn, 0, none⟩)] W fun e W' => (∃ v, e = .returned v) ∧
      ((∃ ys, ys.map (·.1) = List.range (nCh c len) ∧ J ys W') ∨ (∃ pre, (∃ k, k ≤ nCh c len ∧ pre.map (·.1) = List.range k) ∧ Jx pre W')) := by
  refine callsIn_of_wp Try.func39 rfl trivial ?_ rfl
  simp only [Try.ntmps39, List.size_toArray, List.length_cons, List.length_nil, Nat.reduceAdd, Nat.reduceSub, Array.replicate_succ, Array.replicate_zero, List.push_toArray, List.append_toArray, List.nil_append, List.cons_append]
  gi_wp2
  gi_loopw [4] (fun v wr => ∃ (i k : Nat) (pre : List (Ix c len)), v = .int .i64 i ∧ Hid (i = k * c) ∧ Hid (k = 0 ∨ (k - 1) * c < len) ∧ Hid (pre.map (·.1) = List.range k) ∧ J pre wr ∧ KeepV Bs Bn W wr) (fun v _ => len - (intOf v).toNat)
  case atStart => exact ⟨0, 0, [], rfl, by simp [Hid], .inl rfl, rfl, h0, KeepV.refl _ _ _⟩
  case round =>
    obtain ⟨i, k, pre, rfl, hi, hk, hp, hJ, hK⟩ := hrel
    have gBs := (World.cell?_of_block (a := ⟨Bs, 0, none⟩) hK.1).trans hBs
    have gBn := (World.cell?_of_block (a := ⟨Bn, 0, none⟩) hK.2).trans hBn
    by_cases hlt : i < len
    · obtain rfl := hA (by omega)
      have hkl : k * c < len := by rw [← hi.out]; exact hlt
      have hkk : k ≤ k * c := Nat.le_mul_of_pos_right k hc1
      have hpl : pre.length = k := by have := congrArg List.length hp.out; simpa using this
      obtain ⟨x, hx⟩ : ∃ x : Ix c len, x.1 = k := ⟨⟨k, hkl⟩, rfl⟩
      obtain ⟨fn, tmps, assign, body, hy, hR⟩ := hY pre x wr.drew (hJd _ _ hJ) (by omega)
      obtain ⟨m, hm⟩ : ∃ m, chL c len k = m := ⟨_, rfl⟩
      have hmv : m = if len - i < c then len - i else c := by rw [← hm, chL, hi.out]
      have hmi : i + m ≤ len := by rw [hmv]; split <;> omega
      have hm1 : 1 ≤ m := by rw [hmv]; split <;> omega
      have hic : i + c ≤ 9223372036854775807 := by
        rcases hk.out with h | h
        · have := hi.out; subst h; simp at this; omega
        · rcases Nat.eq_zero_or_pos k with h2 | h2
          · have := hi.out; subst h2; simp at this; omega
          · have h3 : 1 * c ≤ k * c := Nat.mul_le_mul_right c h2
            rw [← hi.out] at h3; omega
      simp only [chEnc, hx, hm] at hy
      rw [← hi.out] at hy
      have HN : Hid ((k + 1 = 0 ∨ (k + 1 - 1) * c < len) ∧ i + c = (k + 1) * c) := ⟨.inr (by simpa using hkl), by rw [Nat.succ_mul, hi.out]⟩
      have HP : Hid ((pre ++ [x]).map (·.1) = List.range (k + 1)) := by show _ = _; rw [List.map_append, hp.out, List.range_succ, ← hx]; rfl
      have HKL := hide (lt_nCh hc1 hkl)
      have HM := hide hmv
      have hil : (i : Int) ≤ (len : Int) := by omega
      have hilt : (i : Int) < (len : Int) := by omega
      have htn : ((i : Int) + (m : Int)).toNat = i + m := by omega
      have hims : i + m - i = m := by omega
      clear hm hkl hkk hpl hx hA
      by_cases hcs : len - i < c
      · have hlm : len - i = m := by rw [hmv, if_pos hcs]
        have hcs1 : m < c := by omega
        have hcs2 : (m : Int) < (c : Int) := by omega
        clear hmv hcs
        gi_wp2
        gi_region
        all_goals
          gi_wp2
          refine hR.mono ?_
          rintro e W3 (⟨rfl, hJ3, hk3⟩ | ⟨rfl, hJx3⟩)
          · have hK3 : KeepV Bs Bn W W3 := hK.trans (KeepV.trans ⟨rfl, rfl⟩ hk3)
            have gBn3 := (World.cell?_of_block (a := ⟨Bn, 0, none⟩) hK3.2).trans hBn
            gi_wp2
            go_roundw
            case rel => exact ⟨i + c, k + 1, pre ++ [x], by go_num, HN.out.2, HN.out.1, HP, hJ3, hK3⟩
            case measure => simp [intOf]; omega
          · gi_wp2
            refine bodyPost_ret (results_none rfl _ _ _) rfl ?_
            exact ⟨⟨_, rfl⟩, .inr ⟨_, ⟨k + 1, HKL.out, HP.out⟩, hJx3⟩⟩
      · obtain rfl : m = c := by rw [hmv, if_neg hcs]
        obtain ⟨d, hd⟩ : ∃ d, len - i = d := ⟨_, rfl⟩
        have hcs1 : ¬ d < m := by omega
        have hcs2 : ¬ (d : Int) < (m : Int) := by omega
        clear hmv hcs
        gi_wp2
        gi_region
        all_goals
          gi_wp2
          refine hR.mono ?_
          rintro e W3 (⟨rfl, hJ3, hk3⟩ | ⟨rfl, hJx3⟩)
          · have hK3 : KeepV Bs Bn W W3 := hK.trans (KeepV.trans ⟨rfl, rfl⟩ hk3)
            have gBn3 := (World.cell?_of_block (a := ⟨Bn, 0, none⟩) hK3.2).trans hBn
            gi_wp2
            go_roundw
            case rel => exact ⟨i + m, k + 1, pre ++ [x], by go_num, HN.out.2, HN.out.1, HP, hJ3, hK3⟩
            case measure => simp [intOf]; omega
          · gi_wp2
            refine bodyPost_ret (results_none rfl _ _ _) rfl ?_
            exact ⟨⟨_, rfl⟩, .inr ⟨_, ⟨k + 1, HKL.out, HP.out⟩, hJx3⟩⟩
    · have hle : len ≤ k * c := by rw [← hi.out]; omega
      have HE := hide (nCh_eq hc1 hle hk.out)
      clear hle
      gi_wp2
      go_end0
      exact ⟨⟨_, rfl⟩, .inl ⟨_, by rw [HE.out]; exact hp.out, hJ⟩⟩

set_option maxHeartbeats 1000000 in
/-- the function: both parameters are boxed; the function value captures the boxes -/
theorem chunk_in (n : Nat) (a : Option Addr) (len cap c : Nat) (hc : 1 ≤ c) (w : World) :
    CallsIn Fence.wide n Try.prog 29 #[.slice a len cap, .int .i64 c] w fun e w' => e = .returned (.func (.func 39) #[] #[.pointer (some ⟨w.heap.size, 0, none⟩), .pointer (some ⟨w.heap.size + 1, 0, none⟩)]) ∧ w' = (w.alloc (.cells #[.slice a len cap] 22)).alloc (.cells #[.int .i64 c] 3) := by
  have hci : ¬ ((c : Int) < 1) := by omega
  have hmf : ∀ (fn : Fn) (first cap : Array Value) (w : World), (Instr.makeFunc fn first cap).run Try.prog w = .ok (.func fn first cap) w := fun _ _ _ _ => rfl
  refine callsIn_of_wp Try.func29 rfl trivial ?_ rfl
  simp only [Try.ntmps29, List.size_toArray, List.length_cons, List.length_nil, Nat.reduceAdd, Nat.reduceSub, Array.replicate_succ, Array.replicate_zero, List.push_toArray, List.append_toArray, List.nil_append, List.cons_append]
  gi_wp2
  go_ret
  exact ⟨rfl, rfl⟩
set_option maxHeartbeats 1000000 in
theorem chunkNeg (n : Nat) (a : Option Addr) (len cap : Nat) (c : Int) (hc : c < 1) (w : World) :
    CallsIn Fence.wide n Try.prog 29 #[.slice a len cap, .int .i64 c] w fun e w' => (∃ u pv, e = .panicked [{ v := .iface u pv, recovered := false }]) ∧ w' = (w.alloc (.cells #[.slice a len cap] 22)).alloc (.cells #[.int .i64 c] 3) := by
  refine callsIn_of_wp Try.func29 rfl trivial ?_ rfl
  simp only [Try.ntmps29, List.size_toArray, List.length_cons, List.length_nil, Nat.reduceAdd, Nat.reduceSub, Array.replicate_succ, Array.replicate_zero, List.push_toArray, List.append_toArray, List.nil_append, List.cons_append]
  gi_wp2
  exact ⟨rfl, ⟨_, _, rfl⟩, rfl⟩
theorem chunk_stops (n : Nat) (hn : 1 ≤ n) (Bs Bn len cap c b off : Nat) (A : Option Addr) (hcap : len ≤ cap) (hreach : len * 8 ≤ 140737488351232) (hA : 0 < len → A = some ⟨b, off, none⟩) (hc1 : 1 ≤ c) (hc2 : c ≤ 9223372036854775807) (w : World) (hs : Bs < w.heap.size) (hn2 : Bn < w.heap.size)
    (hBs : w.cell? ⟨Bs, 0, none⟩ = some (.slice A len cap)) (hBn : w.cell? ⟨Bn, 0, none⟩ = some (.int .i64 c)) :
    SeqStopsK Fence.wide n Try.prog 39 #[.pointer (some ⟨Bs, 0, none⟩), .pointer (some ⟨Bn, 0, none⟩)] (chEnc b off c len) (KeepV Bs Bn) (fun ys => ys.map (·.1) = List.range (nCh c len)) (fun pre => ∃ k, k ≤ nCh c len ∧ pre.map (·.1) = List.range k) len w := fun l J Jx W hW hJ _ hY h0 =>
  chunk1_in n hn l Bs Bn len cap c b off A hcap hreach hA hc1 hc2 J Jx (fun pre W' h => hJ pre W' W'.drew none h ⟨rfl, rfl, rfl, Nat.le_refl _, fun _ _ _ => rfl⟩ (fun _ e => by cases e)) hY W ((hW.cell (p := ⟨Bs, 0, none⟩) hs).trans hBs) ((hW.cell (p := ⟨Bn, 0, none⟩) hn2).trans hBn) h0
end Go.Proofs.Ytiihcdoemgmjbaa
