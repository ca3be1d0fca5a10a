/-
  The order made of a list's ranks is weak; what it sorts has the list's values in order, and, stably, equals by their index.
-/
import Derived.Test.YtiocgmeonfanmaaOrdP
import Derived.Test.YtiocgmeonfanmaaRank
import Derived.Test.YtiocgmeonfanmaaPlain
namespace Go.Proofs.Ytiocgmeonfanmaa
open Go.RowKit Go.Sort Go.Shelf
set_option linter.unusedVariables false
set_option linter.unusedSimpArgs false

theorem idx_mem {zs : List Int} {a : Int × Int} (h : a ∈ idxItems zs) : ∃ i : Nat, a.1 = i ∧ zs[i]? = some a.2 := by
  unfold idxItems at h
  obtain ⟨i, hi, rfl⟩ := List.mem_map.1 h
  have hi := List.mem_range.1 hi
  exact ⟨i, rfl, by simp [hi]⟩
theorem rank_cmp {zs : List Int} (hn : zs.length ≤ 4096) {a b : Int × Int} (ha : a ∈ idxItems zs) (hb : b ∈ idxItems zs) : cmpO zs.length (rkPre zs zs.length) a.1 b.1 = rkI a.2 b.2 := by
  obtain ⟨i, e1, h1⟩ := idx_mem ha
  obtain ⟨j, e2, h2⟩ := idx_mem hb
  rw [e1, e2]
  exact cmp_ranked hn h1 h2
theorem weak_ranked {zs : List Int} (hn : zs.length ≤ 4096) : WeakP zs.length (rkPre zs zs.length) (idxItems zs) := by
  intro a ha
  refine ⟨by rw [rank_cmp hn ha ha]; simp [rkI], fun b hb => ⟨?_, fun c hc => ?_⟩⟩
  · rw [rank_cmp hn ha hb, rank_cmp hn hb ha]
    unfold rkI sgn
    (repeat' split) <;> omega
  · rw [rank_cmp hn ha hb, rank_cmp hn hb hc, rank_cmp hn ha hc]
    unfold rkI
    (repeat' split) <;> omega
theorem idx_snd (zs : List Int) : (idxItems zs).map Prod.snd = zs := by
  apply List.ext_getElem?
  intro i
  by_cases h : i < zs.length
  · simp [idxItems, h]
  · simp [idxItems, h, Nat.not_lt.1 h]
theorem rank_tags {zs : List Int} {ts : List (Int × Int)} (hn : zs.length ≤ 4096) (hp : ts.Perm (idxItems zs)) (ho : SrO zs.length (rkPre zs zs.length) ts) : ts.map Prod.snd = srt zs := by
  refine srt_eq (by have := hp.map Prod.snd; rwa [idx_snd] at this) ?_
  rw [List.pairwise_map]
  refine List.Pairwise.imp_of_mem (fun {a b} ha hb h => ?_) ho
  rw [rank_cmp hn (hp.mem_iff.1 hb) (hp.mem_iff.1 ha)] at h
  unfold rkI at h
  (repeat' split at h) <;> omega
theorem rank_tag {zs : List Int} {ts : List (Int × Int)} (hn : zs.length ≤ 4096) (hp : ts.Perm (idxItems zs)) (ho : SrO zs.length (rkPre zs zs.length) ts) {i : Nat} {p : Int × Int} {x : Int} (h1 : ts[i]? = some p) (h2 : (srt zs)[i]? = some x) : p.2 = x := by
  rw [← rank_tags hn hp ho, List.getElem?_map, h1] at h2
  simpa using h2
theorem rank_key {zs : List Int} {cs : List (Int × Int)} (hn : zs.length ≤ 4096) (h : StS zs.length (rkPre zs zs.length) (idxItems zs) cs) {i : Nat} {p q : Int × Int} (h1 : cs[i]? = some p) (h2 : cs[i + 1]? = some q) (ht : p.2 = q.2) : p.1 ≤ q.1 := by
  obtain ⟨js, j1, rfl, j2⟩ := h
  rw [List.getElem?_map] at h1 h2
  obtain ⟨u, hu, rfl⟩ := Option.map_eq_some_iff.1 h1
  obtain ⟨v, hv, rfl⟩ := Option.map_eq_some_iff.1 h2
  obtain ⟨li, hui⟩ := List.getElem?_eq_some_iff.1 hu
  obtain ⟨lj, hvi⟩ := List.getElem?_eq_some_iff.1 hv
  have hb := (List.pairwise_iff_getElem.1 j2) i (i + 1) li lj (by omega)
  rw [hui, hvi] at hb
  have mu : u < zs.length := by have := j1.mem_iff.1 (List.mem_of_getElem? hu); rw [idxItems_length] at this; simpa using this
  have mv : v < zs.length := by have := j1.mem_iff.1 (List.mem_of_getElem? hv); rw [idxItems_length] at this; simpa using this
  have au : at0 (idxItems zs) u = ((u : Int), zs[u]) := by simp [at0, idxItems, mu]
  have av : at0 (idxItems zs) v = ((v : Int), zs[v]) := by simp [at0, idxItems, mv]
  have hc : cfI zs.length (rkPre zs zs.length) (at0 (idxItems zs)) u v = rkI (at0 (idxItems zs) u).2 (at0 (idxItems zs) v).2 := rank_cmp hn (at0_mem (by rw [idxItems_length]; exact mu)) (at0_mem (by rw [idxItems_length]; exact mv))
  rcases hb.2 with h | h
  · have h : cfI zs.length (rkPre zs zs.length) (at0 (idxItems zs)) u v < 0 := of_decide_eq_true h
    rw [hc, ht] at h
    simp [rkI] at h
  · rw [au, av]
    simp only [id] at h
    show (u : Int) ≤ (v : Int)
    omega
end Go.Proofs.Ytiocgmeonfanmaa
