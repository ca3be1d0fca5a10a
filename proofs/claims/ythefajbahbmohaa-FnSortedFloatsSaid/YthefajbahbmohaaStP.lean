/-
  The stable sort by insertion and symmetric merging, in plain terms: what each step does to an array, and that the whole is a permutation and, for a weak order, in order, equals by their index.
-/
import Derived.Sort.LotA
namespace Go.Proofs.Ythefajbahbmohaa
open Go.Sort
set_option linter.unusedVariables false
set_option linter.unusedSimpArgs false
variable {α : Type} [Inhabited α]

/-- x belongs before y: it is less, or neither is and x has the smaller index -/
def Bef (lt : α → α → Bool) (ix : α → Nat) (x y : α) : Prop := lt y x = false ∧ (lt x y = true ∨ ix x < ix y)
omit [Inhabited α] in
theorem Bef.trans {lt : α → α → Bool} {ix : α → Nat} (h : SWO lt) {x y z : α} (h1 : Bef lt ix x y) (h2 : Bef lt ix y z) : Bef lt ix x z := by
  refine ⟨h.ntrans _ _ _ h2.1 h1.1, ?_⟩
  cases hxz : lt x z with
  | true => exact .inl rfl
  | false =>
    right
    have e1 : lt x y = false := h.ntrans _ _ _ hxz h2.1
    have e2 : lt y z = false := h.ntrans _ _ _ h1.1 hxz
    rcases h1.2 with k1 | k1
    · rw [e1] at k1; cases k1
    · rcases h2.2 with k2 | k2
      · rw [e2] at k2; cases k2
      · omega
omit [Inhabited α] in
theorem Bef.of_lt {lt : α → α → Bool} {ix : α → Nat} (h : SWO lt) {x y : α} (h1 : lt x y = true) : Bef lt ix x y := ⟨h.asymmA h1, .inl h1⟩
/-- the places a ≤ i < b are in order -/
def Ord (lt : α → α → Bool) (ix : α → Nat) (a b : Nat) (d : Array α) : Prop := ∀ i j, a ≤ i → i < j → j < b → Bef lt ix d[i]! d[j]!

/-! ### insertion -/
structure InsS (lt : α → α → Bool) (ix : α → Nat) (a j i : Nat) (d : Array α) : Prop where
  rest : ∀ p q, a ≤ p → p < q → q ≤ i → p ≠ j → q ≠ j → Bef lt ix d[p]! d[q]!
  up : ∀ p, j < p → p ≤ i → Bef lt ix d[j]! d[p]!
  ixs : ∀ p, a ≤ p → p < j → ix d[p]! < ix d[j]!
theorem InsS.done {lt : α → α → Bool} {ix : α → Nat} {a i : Nat} {d : Array α} (h : InsS lt ix a a i d) : Ord lt ix a (i + 1) d := by
  intro p q hp hpq hq
  by_cases e : p = a
  · subst e; exact h.up q hpq (by omega)
  · exact h.rest p q hp hpq (by omega) e (by omega)
theorem insInner_bef {lt : α → α → Bool} {ix : α → Nat} (hS : SWO lt) (a i : Nat) : ∀ (j : Nat) (d : Array α), a ≤ j → j ≤ i → i < d.size → InsS lt ix a j i d → Ord lt ix a (i + 1) (insInner lt a j d)
  | 0, d, ha, _, _, h => by
    obtain rfl : a = 0 := by omega
    simp only [insInner]
    exact h.done
  | j + 1, d, ha, hj, hi, h => by
    rw [insInner]
    split
    · next hc =>
      simp only [Bool.and_eq_true, decide_eq_true_eq] at hc
      obtain ⟨h1, h2⟩ := hc
      have g : ∀ k, (swp d (j + 1) j)[k]! = if k = j then d[j + 1]! else if k = j + 1 then d[j]! else d[k]! := swp_get d (by omega) (by omega)
      refine insInner_bef hS a i j _ (by omega) (by omega) (by rw [size_swp]; exact hi) ⟨?_, ?_, ?_⟩
      · intro p q hp hpq hq hpj hqj
        rw [g p, g q, if_neg hpj, if_neg hqj]
        by_cases e1 : p = j + 1
        · rw [if_pos e1, if_neg (by omega)]
          exact h.rest j q (by omega) (by omega) hq (by omega) (by omega)
        · rw [if_neg e1]
          by_cases e2 : q = j + 1
          · rw [if_pos e2]; exact h.rest p j hp (by omega) (by omega) (by omega) (by omega)
          · rw [if_neg e2]; exact h.rest p q hp hpq hq e1 e2
      · intro p hp hpi
        rw [g j, if_pos rfl, g p, if_neg (by omega)]
        by_cases e1 : p = j + 1
        · rw [if_pos e1]; exact Bef.of_lt hS h2
        · rw [if_neg e1]; exact h.up p (by omega) hpi
      · intro p hp hpj
        rw [g j, if_pos rfl, g p, if_neg (by omega), if_neg (by omega)]
        exact h.ixs p hp (by omega)
    · next hc =>
      by_cases e : a = j + 1
      · subst e; exact h.done
      · have hl : lt d[j + 1]! d[j]! = false := by
          cases hh : lt d[j + 1]! d[j]! with
          | false => rfl
          | true => exact absurd (by simp [hh]; omega) hc
        have hb : Bef lt ix d[j]! d[j + 1]! := ⟨hl, .inr (h.ixs j (by omega) (by omega))⟩
        intro p q hp hpq hq
        by_cases e1 : p = j + 1
        · subst e1; exact h.up q hpq (by omega)
        · by_cases e2 : q = j + 1
          · subst e2
            by_cases e3 : p = j
            · subst e3; exact hb
            · exact (h.rest p j hp (by omega) (by omega) e1 (by omega)).trans hS hb
          · exact h.rest p q hp hpq (by omega) e1 e2
theorem insInner_perm (lt : α → α → Bool) (a b : Nat) : ∀ (j : Nat) (d : Array α), a ≤ j → j < b → b ≤ d.size → PermIn a b d (insInner lt a j d)
  | 0, d, ha, _, _ => by simp only [insInner]; exact permIn_refl d a b
  | j + 1, d, ha, hj, hb => by
    rw [insInner]
    split
    · next hc =>
      simp only [Bool.and_eq_true, decide_eq_true_eq] at hc
      exact permIn_trans _ _ _ _ _ (swp_permIn d a b (j + 1) j (by omega) (by omega) (by omega) (by omega) hb) (insInner_perm lt a b j _ (by omega) (by omega) (by rw [size_swp]; exact hb))
    · exact permIn_refl d a b
theorem insOuter_perm (lt : α → α → Bool) (a b : Nat) (d : Array α) (i : Nat) (ha : a ≤ i) (hb : b ≤ d.size) : PermIn a b d (insOuter lt a b i d) := by
  induction hn : b - i generalizing i d with
  | zero => rw [insOuter, if_neg (by omega)]; exact permIn_refl d a b
  | succ n ih =>
    rw [insOuter, if_pos (by omega)]
    have h1 := insInner_perm lt a b i d ha (by omega) hb
    exact permIn_trans _ _ _ _ _ h1 (ih _ (i + 1) (by omega) (by rw [h1.1]; exact hb) (by omega))
theorem insertion_perm (lt : α → α → Bool) (d : Array α) (a b : Nat) (hb : b ≤ d.size) : PermIn a b d (insertionSort lt d a b) := insOuter_perm lt a b d (a + 1) (by omega) hb
theorem insOuter_ord {lt : α → α → Bool} {ix : α → Nat} (hS : SWO lt) (a b : Nat) (d : Array α) (i : Nat) (ha : a ≤ i) (hib : i ≤ b) (hb : b ≤ d.size) (ho : Ord lt ix a i d) (hx : ∀ p q, a ≤ p → p < q → i ≤ q → q < b → ix d[p]! < ix d[q]!) : Ord lt ix a b (insOuter lt a b i d) := by
  induction hn : b - i generalizing i d with
  | zero =>
    rw [insOuter, if_neg (by omega)]
    obtain rfl : i = b := by omega
    exact ho
  | succ n ih =>
    rw [insOuter, if_pos (by omega)]
    have h1 := insInner_perm lt a (i + 1) i d ha (by omega) (by omega)
    refine ih _ (i + 1) (by omega) (by omega) (by rw [h1.1]; exact hb) ?_ ?_ (by omega)
    · refine insInner_bef hS a i i d ha (Nat.le_refl _) (by omega) ⟨?_, ?_, ?_⟩
      · intro p q hp hpq hq _ hqi; exact ho p q hp hpq (by omega)
      · intro p h1 h2; omega
      · intro p hp hpi; exact hx p i hp hpi (Nat.le_refl _) (by omega)
    · intro p q hp hpq hiq hqb
      rw [h1.2.1 q (.inr hiq)]
      by_cases hpi : p < i + 1
      · exact permIn_all d _ a (i + 1) (fun x => ix x < ix d[q]!) (by omega) h1 (fun r hr hri => hx r q hr (by omega) (by omega) hqb) p hp hpi
      · rw [h1.2.1 p (.inr (by omega))]; exact hx p q hp hpq (by omega) hqb
theorem insertion_ord {lt : α → α → Bool} {ix : α → Nat} (hS : SWO lt) (d : Array α) (a b : Nat) (hab : a ≤ b) (hb : b ≤ d.size) (hx : ∀ p q, a ≤ p → p < q → q < b → ix d[p]! < ix d[q]!) : Ord lt ix a b (insertionSort lt d a b) := by
  rcases Nat.lt_or_ge a b with h | h
  · exact insOuter_ord hS a b d (a + 1) (by omega) (by omega) hb (fun i j h1 h2 h3 => by omega) (fun p q h1 h2 _ h4 => hx p q h1 h2 h4)
  · intro i j h1 h2 h3; omega

/-! ### the merge -/
def Early (ix : α → Nat) (a m b : Nat) (d : Array α) : Prop := ∀ p q, a ≤ p → p < m → m ≤ q → q < b → ix d[p]! < ix d[q]!
def Mrg (lt : α → α → Bool) (ix : α → Nat) (a m b : Nat) (d d' : Array α) : Prop :=
  PermIn a b d d' ∧ (SWO lt → Ord lt ix a m d → Ord lt ix m b d → Early ix a m b d → Ord lt ix a b d')
theorem Mrg.triv (lt : α → α → Bool) (ix : α → Nat) {a m b : Nat} (d : Array α) (h : m = a ∨ m = b) : Mrg lt ix a m b d d :=
  ⟨permIn_refl d a b, fun _ h1 h2 _ => by rcases h with rfl | rfl <;> assumption⟩
/-- the place a has gone up to e -/
def MvUp (a e : Nat) (d d' : Array α) : Prop := d'.size = d.size ∧ ∀ p, d'[p]! = if p < a ∨ e < p then d[p]! else if p = e then d[a]! else d[p + 1]!
theorem MvUp.refl (a : Nat) (d : Array α) : MvUp a a d d := ⟨rfl, fun p => by split; rfl; next h => (have : p = a := by omega); subst this; simp⟩
theorem MvUp.step {a e : Nat} {d d' : Array α} (h : MvUp a e d d') (hae : a ≤ e) (he : e + 1 < d.size) : MvUp a (e + 1) d (swp d' e (e + 1)) := by
  refine ⟨by rw [size_swp, h.1], fun p => ?_⟩
  rw [swp_get d' (by rw [h.1]; omega) (by rw [h.1]; omega)]
  by_cases e1 : p = e + 1
  · rw [if_pos e1, h.2 e, if_neg (by omega), if_pos rfl, if_neg (by omega), if_pos e1]
  · rw [if_neg e1]
    by_cases e2 : p = e
    · rw [if_pos e2, h.2 (e + 1), if_pos (by omega), if_neg (by omega), if_neg e1, e2]
    · rw [if_neg e2, h.2 p]
      by_cases e3 : p < a ∨ e < p
      · rw [if_pos e3, if_pos (by omega)]
      · rw [if_neg e3, if_neg e2, if_neg (by omega), if_neg e1]
/-- the place m has gone down to e -/
def MvDn (e m : Nat) (d d' : Array α) : Prop := d'.size = d.size ∧ ∀ p, d'[p]! = if p < e ∨ m < p then d[p]! else if p = e then d[m]! else d[p - 1]!
theorem MvDn.refl (m : Nat) (d : Array α) : MvDn m m d d := ⟨rfl, fun p => by split; rfl; next h => (have : p = m := by omega); subst this; simp⟩
theorem MvDn.step {e m : Nat} {d d' : Array α} (h : MvDn (e + 1) m d d') (hem : e + 1 ≤ m) (hm : m < d.size) : MvDn e m d (swp d' (e + 1) e) := by
  refine ⟨by rw [size_swp, h.1], fun p => ?_⟩
  rw [swp_get d' (by rw [h.1]; omega) (by rw [h.1]; omega)]
  by_cases e1 : p = e
  · rw [if_pos e1, h.2 (e + 1), if_neg (by omega), if_pos rfl, if_neg (by omega), if_pos e1]
  · rw [if_neg e1]
    by_cases e2 : p = e + 1
    · rw [if_pos e2, h.2 e, if_pos (by omega), if_neg (by omega), if_neg e1]; subst e2; rfl
    · rw [if_neg e2, h.2 p]
      by_cases e3 : p < e + 1 ∨ m < p
      · rw [if_pos e3, if_pos (by omega)]
      · rw [if_neg e3, if_neg e2, if_neg (by omega), if_neg e1]
theorem mrg_up {lt : α → α → Bool} {ix : α → Nat} {a b i : Nat} {d d' : Array α} (h1 : a + 1 ≤ i) (h2 : i ≤ b) (hl : i = a + 1 ∨ lt d[i - 1]! d[a]! = true) (hr : i = b ∨ lt d[i]! d[a]! = false) (hp : PermIn a b d d') (hm : MvUp a (i - 1) d d') : Mrg lt ix a (a + 1) b d d' := by
  refine ⟨hp, fun hS _ h4 h5 p q hp1 hpq hq => ?_⟩
  have low : ∀ q, a < q → q < i → Bef lt ix d[q]! d[a]! := fun q k1 k2 => by
    rcases hl with hl | hl
    · omega
    · by_cases e : q = i - 1
      · subst e; exact Bef.of_lt hS hl
      · exact (h4 q (i - 1) (by omega) (by omega) (by omega)).trans hS (Bef.of_lt hS hl)
  have hig : ∀ q, i ≤ q → q < b → Bef lt ix d[a]! d[q]! := fun q k1 k2 => by
    rcases hr with hr | hr
    · omega
    · have k : Bef lt ix d[a]! d[i]! := ⟨hr, .inr (h5 a i (Nat.le_refl _) (by omega) (by omega) (by omega))⟩
      by_cases e : q = i
      · subst e; exact k
      · exact k.trans hS (h4 i q (by omega) (by omega) k2)
  rw [hm.2 p, hm.2 q]
  by_cases c1 : p < a ∨ i - 1 < p
  · rw [if_pos c1, if_pos (by omega)]; exact h4 p q (by omega) hpq hq
  · rw [if_neg c1]
    by_cases c2 : p = i - 1
    · rw [if_pos c2, if_pos (by omega)]; exact hig q (by omega) hq
    · rw [if_neg c2]
      by_cases c3 : q < a ∨ i - 1 < q
      · rw [if_pos c3]; exact h4 (p + 1) q (by omega) (by omega) hq
      · rw [if_neg c3]
        by_cases c4 : q = i - 1
        · rw [if_pos c4]; exact low (p + 1) (by omega) (by omega)
        · rw [if_neg c4]; exact h4 (p + 1) (q + 1) (by omega) (by omega) (by omega)
theorem mrg_dn {lt : α → α → Bool} {ix : α → Nat} {a m i : Nat} {d d' : Array α} (h1 : a ≤ i) (h2 : i ≤ m) (hl : i = a ∨ lt d[m]! d[i - 1]! = false) (hr : i = m ∨ lt d[m]! d[i]! = true) (hp : PermIn a (m + 1) d d') (hm : MvDn i m d d') : Mrg lt ix a m (m + 1) d d' := by
  refine ⟨hp, fun hS h4 _ h5 p q hp1 hpq hq => ?_⟩
  have low : ∀ q, a ≤ q → q < i → Bef lt ix d[q]! d[m]! := fun q k1 k2 => by
    rcases hl with hl | hl
    · omega
    · have k : Bef lt ix d[i - 1]! d[m]! := ⟨hl, .inr (h5 (i - 1) m (by omega) (by omega) (by omega) (by omega))⟩
      by_cases e : q = i - 1
      · subst e; exact k
      · exact (h4 q (i - 1) k1 (by omega) (by omega)).trans hS k
  have hig : ∀ q, i ≤ q → q < m → Bef lt ix d[m]! d[q]! := fun q k1 k2 => by
    rcases hr with hr | hr
    · omega
    · by_cases e : q = i
      · subst e; exact Bef.of_lt hS hr
      · exact (Bef.of_lt hS hr).trans hS (h4 i q (by omega) (by omega) k2)
  rw [hm.2 p, hm.2 q]
  by_cases c1 : p < i ∨ m < p
  · rw [if_pos c1]
    by_cases c2 : q < i ∨ m < q
    · rw [if_pos c2]; exact h4 p q hp1 hpq (by omega)
    · rw [if_neg c2]
      by_cases c3 : q = i
      · rw [if_pos c3]; exact low p hp1 (by omega)
      · rw [if_neg c3]; exact h4 p (q - 1) hp1 (by omega) (by omega)
  · rw [if_neg c1, if_neg (show ¬ (q < i ∨ m < q) by omega)]
    by_cases c2 : p = i
    · rw [if_pos c2, if_neg (by omega)]; exact hig (q - 1) (by omega) (by omega)
    · rw [if_neg c2, if_neg (by omega)]; exact h4 (p - 1) (q - 1) (by omega) (by omega) (by omega)

/-- the parts a ≤ i < m and m ≤ i < b have changed places -/
def rotIx (a m b p : Nat) : Nat := if p < a ∨ b ≤ p then p else if p < a + (b - m) then p + (m - a) else p - (b - m)
def Rot (a m b : Nat) (d d' : Array α) : Prop := d'.size = d.size ∧ ∀ p, d'[p]! = d[rotIx a m b p]!
theorem Rot.triv {a m b : Nat} (d : Array α) (h : m = a ∨ m = b) : Rot a m b d d := ⟨rfl, fun p => by
  have : rotIx a m b p = p := by unfold rotIx; split; rfl; split <;> omega
  rw [this]⟩
theorem sym_plain {lt : α → α → Bool} {ix : α → Nat} {a m b mid s e : Nat} {d d1 d2 d3 : Array α} (hb : b ≤ d.size) (ham : a ≤ m) (hmb : m ≤ b) (has : a ≤ s) (hsm : s ≤ m) (hsd : s ≤ mid) (hme : m ≤ e) (hde : mid ≤ e) (heb : e ≤ b) (heq : e + s = mid + m)
    (hL : s = a ∨ e = b ∨ lt d[e]! d[s - 1]! = false) (hU : s = m ∨ e = m ∨ lt d[e - 1]! d[s]! = true)
    (hp : PermIn s e d d1) (h1 : Rot s m e d d1) (h2 : Mrg lt ix a s mid d1 d2) (h3 : Mrg lt ix mid e b d2 d3) : Mrg lt ix a m b d d3 := by
  have z1 : d1.size = d.size := h1.1
  have z2 : d2.size = d.size := h2.1.1.trans z1
  refine ⟨permIn_trans _ _ _ _ _ (permIn_trans _ _ _ _ _ (permIn_mono d d1 s e a b has heb hb hp) (permIn_mono d1 d2 a mid a b (Nat.le_refl _) (by omega) (by omega) h2.1)) (permIn_mono d2 d3 mid b a b (by omega) (Nat.le_refl _) (by omega) h3.1), fun hS o1 o2 hE => ?_⟩
  have r1 : ∀ p, p < s → d1[p]! = d[p]! := fun p k => by rw [h1.2 p, rotIx, if_pos (.inl k)]
  have r2 : ∀ p, s ≤ p → p < mid → d1[p]! = d[p + (m - s)]! := fun p k1 k2 => by rw [h1.2 p, rotIx, if_neg (by omega), if_pos (by omega)]
  have r3 : ∀ p, mid ≤ p → p < e → d1[p]! = d[p - (e - m)]! := fun p k1 k2 => by rw [h1.2 p, rotIx, if_neg (by omega), if_neg (by omega)]
  have r4 : ∀ p, e ≤ p → d1[p]! = d[p]! := fun p k => by rw [h1.2 p, rotIx, if_pos (.inr k)]
  have oL : Ord lt ix a mid d2 := by
    refine h2.2 hS ?_ ?_ ?_
    · intro i j k1 k2 k3; rw [r1 i (by omega), r1 j k3]; exact o1 i j k1 k2 (by omega)
    · intro i j k1 k2 k3; rw [r2 i k1 (by omega), r2 j (by omega) k3]; exact o2 _ _ (by omega) (by omega) (by omega)
    · intro p q k1 k2 k3 k4; rw [r1 p k2, r2 q k3 k4]; exact hE _ _ k1 (by omega) (by omega) (by omega)
  have out2 : ∀ p, mid ≤ p → d2[p]! = d1[p]! := fun p k => h2.1.2.1 p (.inr k)
  have oR : Ord lt ix mid b d3 := by
    refine h3.2 hS ?_ ?_ ?_
    · intro i j k1 k2 k3; rw [out2 i k1, out2 j (by omega), r3 i k1 (by omega), r3 j (by omega) k3]; exact o1 _ _ (by omega) (by omega) (by omega)
    · intro i j k1 k2 k3; rw [out2 i (by omega), out2 j (by omega), r4 i k1, r4 j (by omega)]; exact o2 _ _ (by omega) (by omega) (by omega)
    · intro p q k1 k2 k3 k4; rw [out2 p k1, out2 q (by omega), r3 p k1 k2, r4 q k3]; exact hE _ _ (by omega) (by omega) (by omega) k4
  have out3 : ∀ p, p < mid → d3[p]! = d2[p]! := fun p k => h3.1.2.1 p (.inl k)
  -- across
  have c1 : ∀ p q, a ≤ p → p < s → e ≤ q → q < b → Bef lt ix d[p]! d[q]! := fun p q k1 k2 k3 k4 => by
    rcases hL with h | h | h
    · omega
    · omega
    · have k : Bef lt ix d[s - 1]! d[e]! := ⟨h, .inr (hE _ _ (by omega) (by omega) (by omega) (by omega))⟩
      have k5 : Bef lt ix d[p]! d[e]! := by
        by_cases x : p = s - 1
        · subst x; exact k
        · exact (o1 p (s - 1) k1 (by omega) (by omega)).trans hS k
      by_cases x : q = e
      · subst x; exact k5
      · exact k5.trans hS (o2 e q (by omega) (by omega) k4)
  have c2 : ∀ p q, m ≤ p → p < e → s ≤ q → q < m → Bef lt ix d[p]! d[q]! := fun p q k1 k2 k3 k4 => by
    rcases hU with h | h | h
    · omega
    · omega
    · have k : Bef lt ix d[e - 1]! d[s]! := Bef.of_lt hS h
      have k5 : Bef lt ix d[p]! d[s]! := by
        by_cases x : p = e - 1
        · subst x; exact k
        · exact (o2 p (e - 1) k1 (by omega) (by omega)).trans hS k
      by_cases x : q = s
      · subst x; exact k5
      · exact k5.trans hS (o1 s q (by omega) (by omega) k4)
  have cross1 : ∀ p q, a ≤ p → p < mid → mid ≤ q → q < b → Bef lt ix d1[p]! d1[q]! := fun p q k1 k2 k3 k4 => by
    by_cases x : p < s
    · rw [r1 p x]
      by_cases y : q < e
      · rw [r3 q k3 y]; exact o1 _ _ k1 (by omega) (by omega)
      · rw [r4 q (by omega)]; exact c1 p q k1 x (by omega) k4
    · rw [r2 p (by omega) k2]
      by_cases y : q < e
      · rw [r3 q k3 y]; exact c2 _ _ (by omega) (by omega) (by omega) (by omega)
      · rw [r4 q (by omega)]; exact o2 _ _ (by omega) (by omega) k4
  have cross2 : ∀ p q, a ≤ p → p < mid → mid ≤ q → q < b → Bef lt ix d2[p]! d1[q]! := fun p q k1 k2 k3 k4 =>
    permIn_all d1 d2 a mid (fun x => Bef lt ix x d1[q]!) (by omega) h2.1 (fun r l1 l2 => cross1 r q l1 l2 k3 k4) p k1 k2
  have cross3 : ∀ p q, a ≤ p → p < mid → mid ≤ q → q < b → Bef lt ix d2[p]! d3[q]! := fun p q k1 k2 k3 k4 =>
    permIn_all d2 d3 mid b (fun x => Bef lt ix d2[p]! x) (by omega) h3.1 (fun r l1 l2 => by rw [out2 r l1]; exact cross2 p r k1 k2 l1 l2) q k3 k4
  intro i j k1 k2 k3
  by_cases x : j < mid
  · rw [out3 i (by omega), out3 j x]; exact oL i j k1 k2 x
  · by_cases y : i < mid
    · rw [out3 i y]; exact cross3 i j k1 y (by omega) k3
    · exact oR i j (by omega) k2 k3

/-! ### a run of n places exchanged with another; a rotation by such exchanges -/
def swIx (a b n p : Nat) : Nat := if a ≤ p ∧ p < a + n then b + (p - a) else if b ≤ p ∧ p < b + n then a + (p - b) else p
def Swr (a b n : Nat) (d d' : Array α) : Prop := d'.size = d.size ∧ ∀ p, d'[p]! = d[swIx a b n p]!
theorem Swr.zero (a b : Nat) (d : Array α) : Swr a b 0 d d := ⟨rfl, fun p => by rw [swIx, if_neg (by omega), if_neg (by omega)]⟩
theorem Swr.step {a b i : Nat} {d d' : Array α} (h : Swr a b i d d') (hab : a + i < b) (hb : b + i < d.size) : Swr a b (i + 1) d (swp d' (a + i) (b + i)) := by
  refine ⟨by rw [size_swp, h.1], fun p => ?_⟩
  rw [swp_get d' (by rw [h.1]; omega) (by rw [h.1]; omega)]
  have e : ∀ q, d'[q]! = d[swIx a b i q]! := h.2
  by_cases x : p = b + i
  · rw [if_pos x, e]; congr 1; subst x; unfold swIx; rw [if_neg (by omega), if_neg (by omega), if_neg (by omega), if_pos (by omega)]; omega
  · rw [if_neg x]
    by_cases y : p = a + i
    · rw [if_pos y, e]; congr 1; subst y; unfold swIx; rw [if_neg (by omega), if_neg (by omega), if_pos (by omega)]; omega
    · rw [if_neg y, e]; congr 1; unfold swIx
      by_cases c1 : a ≤ p ∧ p < a + i
      · rw [if_pos c1, if_pos (by omega)]
      · rw [if_neg c1, if_neg (show ¬ (a ≤ p ∧ p < a + (i + 1)) by omega)]
        by_cases c2 : b ≤ p ∧ p < b + i
        · rw [if_pos c2, if_pos (show b ≤ p ∧ p < b + (i + 1) by omega)]
        · rw [if_neg c2, if_neg (show ¬ (b ≤ p ∧ p < b + (i + 1)) by omega)]
theorem Rot.left {l m i j : Nat} {d d1 d' : Array α} (hi : l + i = m) (hij : j < i) (h : Swr l m j d d1) (k : Rot (l + j) m (m + j) d1 d') : Rot l m (m + j) d d' := by
  refine ⟨k.1.trans h.1, fun p => ?_⟩
  rw [k.2, h.2]
  congr 1
  unfold rotIx
  by_cases c1 : p < l ∨ m + j ≤ p
  · rw [if_pos c1, if_pos (by omega)]; unfold swIx; rw [if_neg (by omega), if_neg (by omega)]
  · rw [if_neg c1]
    by_cases c2 : p < l + j
    · rw [if_pos (show p < l + j ∨ m + j ≤ p by omega), if_pos (by omega)]; unfold swIx; rw [if_pos (by omega)]; omega
    · rw [if_neg (show ¬ (p < l + j ∨ m + j ≤ p) by omega), if_neg (show ¬ p < l + (m + j - m) by omega)]
      by_cases c3 : p < l + j + (m + j - m)
      · rw [if_pos c3]; unfold swIx; rw [if_neg (by omega), if_pos (by omega)]; omega
      · rw [if_neg c3]; unfold swIx; rw [if_neg (by omega), if_neg (by omega)]
theorem Rot.right {l m i j : Nat} {d d1 d' : Array α} (hi : l + i = m) (hij : i < j) (h : Swr l (m + j - i) i d d1) (k : Rot l m (m + j - i) d1 d') : Rot l m (m + j) d d' := by
  refine ⟨k.1.trans h.1, fun p => ?_⟩
  rw [k.2, h.2]
  congr 1
  unfold rotIx
  by_cases c1 : p < l ∨ m + j ≤ p
  · rw [if_pos c1, if_pos (by omega)]; unfold swIx; rw [if_neg (by omega), if_neg (by omega)]
  · rw [if_neg c1]
    by_cases c2 : m + j - i ≤ p
    · rw [if_pos (show p < l ∨ m + j - i ≤ p by omega), if_neg (by omega)]; unfold swIx; rw [if_neg (by omega), if_pos (by omega)]; omega
    · rw [if_neg (show ¬ (p < l ∨ m + j - i ≤ p) by omega)]
      by_cases c3 : p < l + (m + j - i - m)
      · rw [if_pos c3, if_pos (by omega)]; unfold swIx; rw [if_neg (by omega), if_neg (by omega)]
      · rw [if_neg c3]
        by_cases c4 : p < l + (m + j - m)
        · rw [if_pos c4]; unfold swIx; rw [if_pos (by omega)]; omega
        · rw [if_neg c4]; unfold swIx; omega
theorem Rot.last {l m i : Nat} {d d1 : Array α} (hi : l + i = m) (h : Swr l m i d d1) : Rot l m (m + i) d d1 := by
  refine ⟨h.1, fun p => ?_⟩
  rw [h.2]
  congr 1
  unfold rotIx swIx
  by_cases c1 : p < l ∨ m + i ≤ p
  · rw [if_pos c1, if_neg (by omega), if_neg (by omega)]
  · rw [if_neg c1]
    by_cases c2 : p < l + i
    · rw [if_pos (by omega), if_pos (by omega)]; omega
    · rw [if_neg (by omega), if_pos (by omega), if_neg (by omega)]; omega

/-! ### the passes -/
def Blk (lt : α → α → Bool) (ix : α → Nat) (s lo hi : Nat) (d : Array α) : Prop := (∀ p q, lo ≤ p → p < q → q < hi → p / s = q / s → Bef lt ix d[p]! d[q]!) ∧ ∀ p, lo ≤ p → p < hi → ix d[p]! / s = p / s
/-- the blocks of s: those below a are in order, the others as they came -/
def Ps1 (lt : α → α → Bool) (ix : α → Nat) (s a : Nat) (d0 d : Array α) : Prop := PermIn 0 d0.size d0 d ∧ (SWO lt → (∀ p, p < d0.size → ix d0[p]! = p) → Blk lt ix s 0 a d ∧ ∀ p, a ≤ p → p < d0.size → ix d[p]! = p)
def Ps2 (lt : α → α → Bool) (ix : α → Nat) (s a : Nat) (d0 d : Array α) : Prop := PermIn 0 d0.size d0 d ∧ (SWO lt → (∀ p, p < d0.size → ix d0[p]! = p) → Blk lt ix (2 * s) 0 a d ∧ Blk lt ix s a d0.size d)
theorem quo_eq {s c p : Nat} (hs : 0 < s) (h1 : c * s ≤ p) (h2 : p < c * s + s) : p / s = c := by
  rw [Nat.div_eq_iff hs]
  have := Nat.mul_comm c s
  omega
theorem Ps1.start (lt : α → α → Bool) (ix : α → Nat) (s : Nat) (d : Array α) : Ps1 lt ix s 0 d d := ⟨permIn_refl _ _ _, fun _ h => ⟨⟨fun p q _ _ h3 => by omega, fun p _ h => by omega⟩, fun p _ hp => h p hp⟩⟩
theorem Ps1.step {lt : α → α → Bool} {ix : α → Nat} {s c b : Nat} {d0 d : Array α} (hs : 0 < s) (h : Ps1 lt ix s (c * s) d0 d) (h1 : c * s ≤ b) (h2 : b ≤ c * s + s) (hb : b ≤ d0.size) : Ps1 lt ix s b d0 (insertionSort lt d (c * s) b) := by
  have z : d.size = d0.size := h.1.1
  have hp := insertion_perm lt d (c * s) b (by omega)
  refine ⟨permIn_trans _ _ _ _ _ h.1 (permIn_mono d _ (c * s) b 0 d0.size (by omega) hb (by omega) hp), fun hS hx => ?_⟩
  obtain ⟨⟨k1, k2⟩, k3⟩ := h.2 hS hx
  have ho := insertion_ord (ix := ix) hS d (c * s) b h1 (by omega) (fun p q l1 l2 l3 => by rw [k3 p l1 (by omega), k3 q (by omega) (by omega)]; exact l2)
  have hq : ∀ p, c * s ≤ p → p < b → ix (insertionSort lt d (c * s) b)[p]! / s = c := fun p l1 l2 =>
    permIn_all d _ (c * s) b (fun x => ix x / s = c) (by omega) hp (fun r m1 m2 => by rw [k3 r m1 (by omega)]; exact quo_eq hs m1 (by omega)) p l1 l2
  refine ⟨⟨fun p q l1 l2 l3 l4 => ?_, fun p l1 l2 => ?_⟩, fun p l1 l2 => by rw [hp.2.1 p (.inr l1)]; exact k3 p (by omega) l2⟩
  · by_cases x : q < c * s
    · rw [hp.2.1 p (.inl (by omega)), hp.2.1 q (.inl x)]; exact k1 p q l1 l2 x l4
    · by_cases y : p < c * s
      · exfalso
        have e1 : q / s = c := quo_eq hs (by omega) (by omega)
        have e2 : p / s < c := by rw [Nat.div_lt_iff_lt_mul hs]; exact y
        omega
      · exact ho p q (by omega) l2 l3
  · by_cases x : p < c * s
    · rw [hp.2.1 p (.inl x)]; exact k2 p l1 x
    · rw [hq p (by omega) l2]; exact (quo_eq hs (by omega) (by omega)).symm
theorem Ps1.done {lt : α → α → Bool} {ix : α → Nat} {s : Nat} {d0 d : Array α} (h : Ps1 lt ix s d0.size d0 d) : Ps2 lt ix s 0 d0 d := ⟨h.1, fun hS hx => ⟨⟨fun p q _ _ h3 => by omega, fun p _ h => by omega⟩, (h.2 hS hx).1⟩⟩
theorem Ps2.step {lt : α → α → Bool} {ix : α → Nat} {s c A b : Nat} {d0 d d' : Array α} (hA : A = c * (2 * s)) (hs : 0 < s) (h : Ps2 lt ix s A d0 d) (h1 : A + s ≤ b) (h2 : b = A + 2 * s ∨ (b = d0.size ∧ b ≤ A + 2 * s)) (hb : b ≤ d0.size) (hm : Mrg lt ix A (A + s) b d d') : Ps2 lt ix s b d0 d' := by
  have z : d.size = d0.size := h.1.1
  have hp := hm.1
  have hA2 : A = (2 * c) * s := by rw [hA, ← Nat.mul_assoc, Nat.mul_comm c 2]
  have hA3 : A + s = (2 * c + 1) * s := by rw [hA2, Nat.add_mul, Nat.one_mul]
  have b2 : b ≤ A + 2 * s := by rcases h2 with e | ⟨_, e⟩ <;> omega
  refine ⟨permIn_trans _ _ _ _ _ h.1 (permIn_mono d _ A b 0 d0.size (by omega) hb (by omega) hp), fun hS hx => ?_⟩
  obtain ⟨⟨k1, k2⟩, k3, k4⟩ := h.2 hS hx
  have qL : ∀ p, A ≤ p → p < A + s → p / s = 2 * c := fun p l1 l2 => quo_eq hs (by omega) (by omega)
  have qR : ∀ p, A + s ≤ p → p < A + 2 * s → p / s = 2 * c + 1 := fun p l1 l2 => quo_eq hs (by omega) (by omega)
  have q2 : ∀ p, A ≤ p → p < A + 2 * s → p / (2 * s) = c := fun p l1 l2 => quo_eq (by omega) (by omega) (by omega)
  have ho := hm.2 hS (fun i j l1 l2 l3 => k3 i j l1 l2 (by omega) (by rw [qL i l1 (by omega), qL j (by omega) l3]))
    (fun i j l1 l2 l3 => k3 i j (by omega) l2 (by omega) (by rw [qR i l1 (by omega), qR j (by omega) (by omega)]))
    (fun p q l1 l2 l3 l4 => by
      have e1 := k4 p l1 (by omega)
      have e2 := k4 q (by omega) (by omega)
      rw [qL p l1 l2] at e1
      rw [qR q l3 (by omega)] at e2
      rcases Nat.lt_or_ge (ix d[p]!) (ix d[q]!) with x | x
      · exact x
      · have := Nat.div_le_div_right (c := s) x; omega)
  have i2 : ∀ p, A ≤ p → p < b → ix d[p]! / (2 * s) = c := fun p l1 l2 => by
    have e1 := k4 p l1 (by omega)
    have e2 : ix d[p]! / (2 * s) = ix d[p]! / s / 2 := by rw [Nat.div_div_eq_div_mul, Nat.mul_comm]
    rw [e2, e1]
    by_cases x : p < A + s
    · rw [qL p l1 x]; omega
    · rw [qR p (by omega) (by omega)]; omega
  have i3 : ∀ p, A ≤ p → p < b → ix d'[p]! / (2 * s) = c := fun p l1 l2 => permIn_all d d' A b (fun x => ix x / (2 * s) = c) (by omega) hp i2 p l1 l2
  refine ⟨⟨fun p q l1 l2 l3 l4 => ?_, fun p l1 l2 => ?_⟩, fun p q l1 l2 l3 l4 => ?_, fun p l1 l2 => ?_⟩
  · by_cases x : q < A
    · rw [hp.2.1 p (.inl (by omega)), hp.2.1 q (.inl x)]; exact k1 p q l1 l2 x l4
    · by_cases y : p < A
      · exfalso
        have e1 : q / (2 * s) = c := q2 q (by omega) (by omega)
        have e2 : p / (2 * s) < c := by rw [Nat.div_lt_iff_lt_mul (by omega)]; omega
        omega
      · exact ho p q (by omega) l2 l3
  · by_cases x : p < A
    · rw [hp.2.1 p (.inl x)]; exact k2 p l1 x
    · rw [i3 p (by omega) l2]; exact (q2 p (by omega) (by omega)).symm
  · rw [hp.2.1 p (.inr l1), hp.2.1 q (.inr (by omega))]; exact k3 p q (by omega) l2 l3 l4
  · rw [hp.2.1 p (.inr l1)]; exact k4 p (by omega) l2
/-- the end of a pass: what is left is one block or less -/
theorem Ps2.next {lt : α → α → Bool} {ix : α → Nat} {s c a : Nat} {d0 d : Array α} (hs : 0 < s) (h : Ps2 lt ix s a d0 d) (ha : a = d0.size ∨ (a = c * (2 * s) ∧ d0.size ≤ a + s)) : Ps2 lt ix (2 * s) 0 d0 d := by
  refine ⟨h.1, fun hS hx => ⟨⟨fun p q _ _ h3 => by omega, fun p _ h => by omega⟩, ?_⟩⟩
  obtain ⟨⟨k1, k2⟩, k3, k4⟩ := h.2 hS hx
  rcases ha with rfl | ⟨ha, hn⟩
  · exact ⟨k1, k2⟩
  · have hA2 : a = (2 * c) * s := by rw [ha, ← Nat.mul_assoc, Nat.mul_comm c 2]
    have qL : ∀ p, a ≤ p → p < a + s → p / s = 2 * c := fun p l1 l2 => quo_eq hs (by omega) (by omega)
    have q2 : ∀ p, a ≤ p → p < a + 2 * s → p / (2 * s) = c := fun p l1 l2 => quo_eq (by omega) (by omega) (by omega)
    refine ⟨fun p q l1 l2 l3 l4 => ?_, fun p l1 l2 => ?_⟩
    · by_cases x : q < a
      · exact k1 p q l1 l2 x l4
      · by_cases y : p < a
        · exfalso
          have e1 : q / (2 * s) = c := q2 q (by omega) (by omega)
          have e2 : p / (2 * s) < c := by rw [Nat.div_lt_iff_lt_mul (by omega)]; omega
          omega
        · exact k3 p q (by omega) l2 l3 (by rw [qL p (by omega) (by omega), qL q (by omega) (by omega)])
    · by_cases x : p < a
      · exact k2 p l1 x
      · rw [q2 p (by omega) (by omega)]
        have e1 := k4 p (by omega) l2
        have e2 : ix d[p]! / (2 * s) = ix d[p]! / s / 2 := by rw [Nat.div_div_eq_div_mul, Nat.mul_comm]
        rw [e2, e1, qL p (by omega) (by omega)]; omega
/-- the end: one block -/
theorem Ps2.whole {lt : α → α → Bool} {ix : α → Nat} {s : Nat} {d0 d : Array α} (h : Ps2 lt ix s 0 d0 d) (hn : d0.size ≤ s) : PermIn 0 d0.size d0 d ∧ (SWO lt → (∀ p, p < d0.size → ix d0[p]! = p) → Ord lt ix 0 d0.size d) :=
  ⟨h.1, fun hS hx i j _ h2 h3 => (h.2 hS hx).2.1 i j (Nat.zero_le _) h2 h3 (by rw [Nat.div_eq_of_lt (by omega), Nat.div_eq_of_lt (by omega)])⟩
end Go.Proofs.Ythefajbahbmohaa
