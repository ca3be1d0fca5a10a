/-
  Sorting stably by the second key and then by the first is sorting stably by both.
-/
import Derived.Deep.DeepCutAuto
import Derived.Test.YtiocgmeonfanmaaAppR
import Derived.Test.YtiocgmeonfanmaaThrP
namespace Go.Proofs.Ytiocgmeonfanmaa
open Go.RowKit Go.Sort Go.Shelf
set_option linter.unusedVariables false
set_option linter.unusedSimpArgs false

/-- by the first key, then by the second -/
def lexC (a b : Int × Int) : Int := if rkI a.1 b.1 = 0 then rkI a.2 b.2 else rkI a.1 b.1
theorem lexC_iff (a b : Int × Int) : (lexC a b ≤ 0 ↔ a.1 < b.1 ∨ (a.1 = b.1 ∧ a.2 ≤ b.2)) ∧ (lexC a b < 0 ↔ a.1 < b.1 ∨ (a.1 = b.1 ∧ a.2 < b.2)) := by
  unfold lexC rkI
  (repeat' split) <;> omega
theorem lexC_self (a : Int × Int) : lexC a a = 0 := by unfold lexC rkI; (repeat' split) <;> omega
theorem lexC_sgn (a b : Int × Int) : sgn (lexC a b) = - sgn (lexC b a) := by
  have h1 := lexC_iff a b
  have h2 := lexC_iff b a
  unfold sgn
  (repeat' split) <;> omega
theorem weak_lex {s : Int} {os : List Int} {zs : List (Int × Int)} (v : Int → Int × Int) (h : ∀ a ∈ zs, ∀ b ∈ zs, cmpO s os a.1 b.1 = lexC (v a.1) (v b.1)) : WeakP s os zs := by
  intro a ha
  refine ⟨by rw [h a ha a ha, lexC_self], fun b hb => ⟨?_, fun c hc => ?_⟩⟩
  · rw [h a ha b hb, h b hb a ha]; exact lexC_sgn _ _
  · rw [h a ha b hb, h b hb c hc, h a ha c hc, (lexC_iff _ _).1, (lexC_iff _ _).1, (lexC_iff _ _).1]
    omega
def at1 (r : List Int) (i : Int) : Int := r[i.toNat]?.getD 0
/-- the keys are indices below n -/
def KeyIn (n : Nat) (zs : List (Int × Int)) : Prop := ∀ a ∈ zs, ∃ i : Nat, i < n ∧ a.1 = i
theorem keyIn_idx (zs : List Int) : KeyIn zs.length (idxItems zs) := fun a ha => by
  obtain ⟨i, e, h⟩ := idx_mem ha
  exact ⟨i, (List.getElem?_eq_some_iff.1 h).1, e⟩
theorem KeyIn.perm {n : Nat} {zs ts : List (Int × Int)} (h : KeyIn n zs) (hp : ts.Perm zs) : KeyIn n ts := fun a ha => h a (hp.mem_iff.1 ha)
theorem cmp_at1 {n : Nat} {r : List Int} (hl : r.length = n) (hn : n ≤ 4096) {i j : Nat} (hi : i < n) (hj : j < n) : cmpO n (rkPre r n) i j = rkI (at1 r i) (at1 r j) := by
  subst hl
  have h := cmp_ranked hn (i := i) (j := j) (a := r[i]) (b := r[j]) (by simp [hi]) (by simp [hj])
  rw [h]
  simp [at1, hi, hj]
theorem weak_one {n : Nat} {r : List Int} (hl : r.length = n) (hn : n ≤ 4096) {zs : List (Int × Int)} (hk : KeyIn n zs) : WeakP n (rkPre r n) zs := by
  refine weak_lex (fun i => (at1 r i, 0)) fun a ha b hb => ?_
  obtain ⟨i, hi, e1⟩ := hk a ha
  obtain ⟨j, hj, e2⟩ := hk b hb
  rw [e1, e2, cmp_at1 hl hn hi hj]
  unfold lexC
  simp only []
  split
  · next h => rw [h]; simp [rkI]
  · rfl
/-- the sign of the first, or, where it is 0, of the second -/
def pickS (s t : Int) : Int := if s = 0 then t else s
def bothL (f g : List Int) : List Int := List.zipWith pickS f g
theorem bothL_length {f g : List Int} (h : f.length = g.length) : (bothL f g).length = f.length := by simp [bothL, h]
theorem bothL_at {f g : List Int} {k : Nat} {s t : Int} (h1 : f[k]? = some s) (h2 : g[k]? = some t) : (bothL f g)[k]? = some (pickS s t) := by
  simp [bothL, List.getElem?_zipWith, h1, h2]
theorem bothL_snoc {f g : List Int} {k : Nat} {s t : Int} (hl : f.length = g.length) (h1 : f[k]? = some s) (h2 : g[k]? = some t) : (bothL f g).take (k + 1) = (bothL f g).take k ++ [pickS s t] := by
  rw [List.take_add_one, bothL_at h1 h2]; rfl
theorem cmp_both {n : Nat} {f g : List Int} (hf : f.length = n) (hg : g.length = n) (hn : n ≤ 4096) {i j : Nat} (hi : i < n) (hj : j < n) : cmpO n (bothL (rkPre f n) (rkPre g n)) i j = lexC (at1 f i, at1 g i) (at1 f j, at1 g j) := by
  have e1 := cmp_at1 hf hn hi hj
  have e2 := cmp_at1 hg hn hi hj
  have l1 : (rkPre f n).length = n * n := by have := rkPre_length f (i := n) (by omega); rw [hf] at this; exact this
  have l2 : (rkPre g n).length = n * n := by have := rkPre_length g (i := n) (by omega); rw [hg] at this; exact this
  have hle : n ≤ n * n := Nat.le_mul_of_pos_left _ (by omega)
  have e : ((n : Int) * (i : Int) + (j : Int)).toNat = n * i + j := by
    have : ((n : Int) * (i : Int) + (j : Int)) = ((n * i + j : Nat) : Int) := by push_cast; rfl
    rw [this]; exact Int.toNat_natCast _
  have hlt : n * i + j < n * n := by
    have h1 : n * (i + 1) ≤ n * n := Nat.mul_le_mul_left _ (by omega)
    rw [Nat.mul_add, Nat.mul_one] at h1
    omega
  unfold cmpO at e1 e2 ⊢
  rw [if_neg (by rw [l1]; omega), e] at e1
  rw [if_neg (by rw [l2]; omega), e] at e2
  rw [if_neg (by rw [bothL_length (by rw [l1, l2]), l1]; omega), e]
  have a1 : (rkPre f n)[n * i + j]? = some (rkI (at1 f i) (at1 f j)) := by
    rw [List.getElem?_eq_getElem (by rw [l1]; exact hlt)] at e1 ⊢
    simpa using e1
  have a2 : (rkPre g n)[n * i + j]? = some (rkI (at1 g i) (at1 g j)) := by
    rw [List.getElem?_eq_getElem (by rw [l2]; exact hlt)] at e2 ⊢
    simpa using e2
  rw [bothL_at a1 a2]
  rfl
theorem weak_both {n : Nat} {f g : List Int} (hf : f.length = n) (hg : g.length = n) (hn : n ≤ 4096) {zs : List (Int × Int)} (hk : KeyIn n zs) : WeakP n (bothL (rkPre f n) (rkPre g n)) zs := by
  refine weak_lex (fun i => (at1 f i, at1 g i)) fun a ha b hb => ?_
  obtain ⟨i, hi, e1⟩ := hk a ha
  obtain ⟨j, hj, e2⟩ := hk b hb
  rw [e1, e2, cmp_both hf hg hn hi hj]
/-- first by the second key, then by the first: that is by both -/
theorem two_keys {n : Nat} {l f g : List Int} (hl : l.length = n) (hf : f.length = n) (hg : g.length = n) (hn : n ≤ 4096) {a1 a2 b : List (Int × Int)} (h1 : StS n (rkPre g n) (idxItems l) a1) (h2 : StS n (rkPre f n) a1 a2) (h3 : StS n (bothL (rkPre f n) (rkPre g n)) (idxItems l) b) : a2 = b := by
  refine StS.unique (zs := idxItems l) (s := n) (os := bothL (rkPre f n) (rkPre g n)) ?_ h3
  obtain ⟨js, j1, rfl, j2⟩ := h1
  obtain ⟨ks, k1, rfl, k2⟩ := h2
  have hil : (idxItems l).length = n := by rw [idxItems_length]; exact hl
  have hjl : js.length = n := by have := j1.length_eq; rw [List.length_range, hil] at this; exact this
  have hkm : ∀ k ∈ ks, k < n := fun k hk => by have := k1.mem_iff.1 hk; rw [List.length_map, hjl] at this; simpa using this
  have hjm : ∀ k, k < n → js[k]?.getD 0 < n := fun k hk => by
    have hk' : k < js.length := by omega
    have := j1.mem_iff.1 (List.getElem_mem hk')
    rw [hil] at this
    simpa [hk'] using this
  have hat : ∀ k, k < n → at0 (js.map (at0 (idxItems l))) k = at0 (idxItems l) (js[k]?.getD 0) := fun k hk => by
    have hk' : k < js.length := by omega
    simp [at0, hk']
  have hkey : ∀ u, u < n → (at0 (idxItems l) u).1 = (u : Int) := fun u hu => by
    have : u < l.length := by omega
    simp [at0, idxItems, this]
  refine ⟨ks.map fun k => js[k]?.getD 0, ?_, ?_, ?_⟩
  · have h := k1.map fun k => js[k]?.getD 0
    rw [List.length_map] at h
    refine h.trans (List.Perm.trans ?_ j1)
    rw [show (List.range js.length).map (fun k => js[k]?.getD 0) = js from ?_]
    apply List.ext_getElem?
    intro i
    by_cases hi : i < js.length
    · simp [hi]
    · simp [hi, Nat.not_lt.1 hi]
  · rw [List.map_map]
    exact List.map_congr_left fun k hk => hat k (hkm k hk)
  · rw [List.pairwise_map]
    refine List.Pairwise.imp_of_mem (fun {p q} hp hq h => ?_) k2
    have lp := hkm p hp
    have lq := hkm q hq
    have lu := hjm p lp
    have lv := hjm q lq
    have cF1 : cfI n (rkPre f n) (at0 (js.map (at0 (idxItems l)))) q p = rkI (at1 f ((js[q]?.getD 0 : Nat) : Int)) (at1 f ((js[p]?.getD 0 : Nat) : Int)) := by
      unfold cfI; rw [hat p lp, hat q lq, hkey _ lu, hkey _ lv]; exact cmp_at1 hf hn lv lu
    have cF2 : cfI n (rkPre f n) (at0 (js.map (at0 (idxItems l)))) p q = rkI (at1 f ((js[p]?.getD 0 : Nat) : Int)) (at1 f ((js[q]?.getD 0 : Nat) : Int)) := by
      unfold cfI; rw [hat p lp, hat q lq, hkey _ lu, hkey _ lv]; exact cmp_at1 hf hn lu lv
    have cB1 : cfI n (bothL (rkPre f n) (rkPre g n)) (at0 (idxItems l)) (js[q]?.getD 0) (js[p]?.getD 0) = lexC (at1 f ((js[q]?.getD 0 : Nat) : Int), at1 g ((js[q]?.getD 0 : Nat) : Int)) (at1 f ((js[p]?.getD 0 : Nat) : Int), at1 g ((js[p]?.getD 0 : Nat) : Int)) := by
      unfold cfI; rw [hkey _ lu, hkey _ lv]; exact cmp_both hf hg hn lv lu
    have cB2 : cfI n (bothL (rkPre f n) (rkPre g n)) (at0 (idxItems l)) (js[p]?.getD 0) (js[q]?.getD 0) = lexC (at1 f ((js[p]?.getD 0 : Nat) : Int), at1 g ((js[p]?.getD 0 : Nat) : Int)) (at1 f ((js[q]?.getD 0 : Nat) : Int), at1 g ((js[q]?.getD 0 : Nat) : Int)) := by
      unfold cfI; rw [hkey _ lu, hkey _ lv]; exact cmp_both hf hg hn lu lv
    have cG1 : cfI n (rkPre g n) (at0 (idxItems l)) (js[q]?.getD 0) (js[p]?.getD 0) = rkI (at1 g ((js[q]?.getD 0 : Nat) : Int)) (at1 g ((js[p]?.getD 0 : Nat) : Int)) := by
      unfold cfI; rw [hkey _ lu, hkey _ lv]; exact cmp_at1 hg hn lv lu
    have cG2 : cfI n (rkPre g n) (at0 (idxItems l)) (js[p]?.getD 0) (js[q]?.getD 0) = rkI (at1 g ((js[p]?.getD 0 : Nat) : Int)) (at1 g ((js[q]?.getD 0 : Nat) : Int)) := by
      unfold cfI; rw [hkey _ lu, hkey _ lv]; exact cmp_at1 hg hn lu lv
    have hG : p < q → ¬ cfI n (rkPre g n) (at0 (idxItems l)) (js[q]?.getD 0) (js[p]?.getD 0) < 0 ∧ (cfI n (rkPre g n) (at0 (idxItems l)) (js[p]?.getD 0) (js[q]?.getD 0) < 0 ∨ js[p]?.getD 0 < js[q]?.getD 0) := fun hpq => by
      have h := (List.pairwise_iff_getElem.1 j2) p q (by omega) (by omega) hpq
      have ep : js[p]?.getD 0 = js[p]'(by omega) := by simp [show p < js.length by omega]
      have eq : js[q]?.getD 0 = js[q]'(by omega) := by simp [show q < js.length by omega]
      rw [ep, eq]
      refine ⟨of_decide_eq_false h.1, ?_⟩
      rcases h.2 with k | k
      · exact .inl (of_decide_eq_true k)
      · exact .inr k
    have hF1 : ¬ cfI n (rkPre f n) (at0 (js.map (at0 (idxItems l)))) q p < 0 := of_decide_eq_false h.1
    have hF2 : cfI n (rkPre f n) (at0 (js.map (at0 (idxItems l)))) p q < 0 ∨ p < q := by
      rcases h.2 with k | k
      · exact .inl (of_decide_eq_true k)
      · exact .inr k
    rw [cG1, cG2] at hG
    rw [cF1] at hF1
    rw [cF2] at hF2
    have b1 : ¬ cfI n (bothL (rkPre f n) (rkPre g n)) (at0 (idxItems l)) (js[q]?.getD 0) (js[p]?.getD 0) < 0 ∧ (cfI n (bothL (rkPre f n) (rkPre g n)) (at0 (idxItems l)) (js[p]?.getD 0) (js[q]?.getD 0) < 0 ∨ js[p]?.getD 0 < js[q]?.getD 0) := by
      rw [cB1, cB2, (lexC_iff _ _).2, (lexC_iff _ _).2]
      simp only []
      generalize at1 f ((js[p]?.getD 0 : Nat) : Int) = fp at *
      generalize at1 f ((js[q]?.getD 0 : Nat) : Int) = fq at *
      generalize at1 g ((js[p]?.getD 0 : Nat) : Int) = gp at *
      generalize at1 g ((js[q]?.getD 0 : Nat) : Int) = gq at *
      have rk : ∀ x y : Int, rkI x y < 0 ↔ x < y := fun x y => by unfold rkI; (repeat' split) <;> omega
      simp only [rk] at hF1 hF2 hG
      omega
    refine ⟨decide_eq_false b1.1, ?_⟩
    rcases b1.2 with k | k
    · exact .inl (decide_eq_true k)
    · exact .inr k
end Go.Proofs.Ytiocgmeonfanmaa
