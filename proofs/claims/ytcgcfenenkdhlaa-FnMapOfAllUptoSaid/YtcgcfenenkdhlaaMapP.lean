/-
  Tables of entries: plain lists, and how a map's datum reads. No walk.
-/
import Derived.Maps.Views
import Derived.Maps.Ext
import Derived.Lib.SlKeysI
import Derived.Test.YtcgcfenenkdhlaaPlain
namespace Go.Proofs.Ytcgcfenenkdhlaa
open Go.Maps
set_option linter.unusedVariables false
set_option linter.unusedSimpArgs false

theorem snocInd {α : Type} {P : List α → Prop} (nil : P []) (snoc : ∀ l e, P l → P (l ++ [e])) : ∀ l, P l := by
  intro l
  rw [← List.reverse_reverse l]
  induction l.reverse with
  | nil => exact nil
  | cons x xs ih => rw [List.reverse_cons]; exact snoc _ _ ih
theorem nodup_subset_length {α : Type} [BEq α] [LawfulBEq α] : ∀ {ps t : List α}, ps.Nodup → (∀ p ∈ ps, p ∈ t) → ps.length ≤ t.length
  | [], _, _, _ => Nat.zero_le _
  | p :: ps, t, hn, hs => by
    have hp : p ∈ t := hs p List.mem_cons_self
    obtain ⟨hnp, hn'⟩ := List.nodup_cons.1 hn
    have h := nodup_subset_length (t := t.erase p) hn' fun q hq => (List.mem_erase_of_ne (a := q) (b := p) (fun e => by rw [e] at hq; exact hnp hq)).2 (hs q (List.mem_cons_of_mem _ hq))
    rw [List.length_erase_of_mem hp] at h
    have := List.length_pos_of_mem hp
    simp only [List.length_cons]; omega
/-- the last value of a key -/
def lk (l : List (Int × Int)) (k : Int) : Option Int := l.foldl (fun r e => if e.1 = k then some e.2 else r) none
theorem lk_nil (k : Int) : lk [] k = none := rfl
theorem lk_snoc (l : List (Int × Int)) (e : Int × Int) (k : Int) : lk (l ++ [e]) k = if e.1 = k then some e.2 else lk l k := by simp [lk]
theorem lk_fold (b : List (Int × Int)) (k : Int) (r : Option Int) : b.foldl (fun r e => if e.1 = k then some e.2 else r) r = (lk b k).or r := by
  induction b using snocInd with
  | nil => simp [lk]
  | snoc b e ih => rw [List.foldl_append, ih, lk_snoc]; simp; split <;> simp
theorem lk_append (a b : List (Int × Int)) (k : Int) : lk (a ++ b) k = (lk b k).or (lk a k) := by
  unfold lk; rw [List.foldl_append, lk_fold]; rfl
/-- by key, each key once, with the value that f says -/
structure Tab (t : List (Int × Int)) (f : Int → Option Int) : Prop where
  rising : t.Pairwise (fun a b => a.1 < b.1)
  mem : ∀ k v, (k, v) ∈ t ↔ f k = some v
/-- each key once, with the value that f says, in some order -/
def AllF (f : Int → Option Int) (ps : List (Int × Int)) : Prop := (ps.map (·.1)).Nodup ∧ ∀ k v, (k, v) ∈ ps ↔ f k = some v
def PartF (f : Int → Option Int) (ps : List (Int × Int)) : Prop := (ps.map (·.1)).Nodup ∧ ∀ p ∈ ps, f p.1 = some p.2
theorem Tab.nodup {t : List (Int × Int)} {f : Int → Option Int} (h : Tab t f) : (t.map (·.1)).Nodup := by
  rw [List.Nodup, List.pairwise_map]
  exact h.rising.imp fun hab => by omega
theorem Tab.all {t : List (Int × Int)} {f : Int → Option Int} (h : Tab t f) : AllF f t := ⟨h.nodup, h.mem⟩
theorem nodup_of_keys {ps : List (Int × Int)} (h : (ps.map (·.1)).Nodup) : ps.Nodup := by
  rw [List.Nodup, List.pairwise_map] at h
  exact h.imp fun hab e => hab (by rw [e])
theorem perm_of_mem {l r : List (Int × Int)} (hl : l.Nodup) (hr : r.Nodup) (h : ∀ p, p ∈ l ↔ p ∈ r) : l.Perm r := by
  rw [List.perm_iff_count]
  intro p
  by_cases hp : p ∈ l
  · rw [List.Nodup.count hl, List.Nodup.count hr, if_pos hp, if_pos ((h p).1 hp)]
  · rw [List.Nodup.count hl, List.Nodup.count hr, if_neg hp, if_neg (fun h2 => hp ((h p).2 h2))]
theorem AllF.perm {f : Int → Option Int} {ps qs : List (Int × Int)} (h : AllF f ps) (k : AllF f qs) : ps.Perm qs :=
  perm_of_mem (nodup_of_keys h.1) (nodup_of_keys k.1) fun p => (h.2 p.1 p.2).trans (k.2 p.1 p.2).symm
theorem Tab.unique {t r : List (Int × Int)} {f : Int → Option Int} (h : Tab t f) (k : Tab r f) : t = r :=
  (h.all.perm k.all).eq_of_pairwise (fun a b _ _ h1 h2 => by omega) h.rising k.rising
theorem Tab.of_sorted {t ps : List (Int × Int)} {f : Int → Option Int} (h : AllF f ps) (hp : t.Perm ps) (hs : t.Pairwise (fun a b => a.1 ≤ b.1)) : Tab t f := by
  refine ⟨?_, fun k v => (hp.mem_iff).trans (h.2 k v)⟩
  have hn : (t.map (·.1)).Nodup := (hp.map (·.1)).nodup_iff.2 h.1
  rw [List.Nodup, List.pairwise_map] at hn
  exact (hs.and hn).imp fun ⟨h1, h2⟩ => by omega
theorem Tab.lk {t : List (Int × Int)} {f : Int → Option Int} (h : Tab t f) (k : Int) : lk t k = f k := by
  have hsome : ∀ (l : List (Int × Int)) v, Ytcgcfenenkdhlaa.lk l k = some v → (k, v) ∈ l := by
    intro l
    induction l using snocInd with
    | nil => intro v h; simp [Ytcgcfenenkdhlaa.lk] at h
    | snoc l e ih =>
      intro v h
      rw [lk_snoc] at h
      split at h
      · rename_i he; simp at h; rw [List.mem_append]; right; simp; rw [← he, ← h]
      · exact List.mem_append_left _ (ih v h)
  have hnone : ∀ (l : List (Int × Int)), Ytcgcfenenkdhlaa.lk l k = none → ∀ v, (k, v) ∉ l := by
    intro l
    induction l using snocInd with
    | nil => intro _ v h; cases h
    | snoc l e ih =>
      intro h v hm
      rw [lk_snoc] at h
      split at h
      · cases h
      · rename_i he
        rcases List.mem_append.1 hm with hm | hm
        · exact ih h v hm
        · simp at hm; exact he (by rw [← hm])
  cases hl : Ytcgcfenenkdhlaa.lk t k with
  | some v => exact ((h.mem k v).1 (hsome t v hl)).symm
  | none =>
    cases hf : f k with
    | none => rfl
    | some v => exact absurd ((h.mem k v).2 hf) (hnone t hl v)
theorem Tab.keys_rising {t : List (Int × Int)} {f : Int → Option Int} (h : Tab t f) : (t.map (·.1)).Pairwise (· < ·) := by
  rw [List.pairwise_map]; exact h.rising
theorem AllF.keys {f : Int → Option Int} {ps t : List (Int × Int)} (h : AllF f ps) (k : Tab t f) : srt (ps.map (·.1)) = t.map (·.1) :=
  (srt_eq ((h.perm k.all).map (·.1)).symm (k.keys_rising.imp fun h => by omega)).symm
theorem AllF.values {f : Int → Option Int} {ps t : List (Int × Int)} (h : AllF f ps) (k : Tab t f) : srt (ps.map (·.2)) = srt (t.map (·.2)) := srt_congr ((h.perm k.all).map (·.2))
theorem AllF.length {f : Int → Option Int} {ps t : List (Int × Int)} (h : AllF f ps) (k : Tab t f) : ps.length = t.length := (h.perm k.all).length_eq
theorem PartF.length {f : Int → Option Int} {ps t : List (Int × Int)} (h : PartF f ps) (k : Tab t f) : ps.length ≤ t.length :=
  nodup_subset_length (nodup_of_keys h.1) fun p hp => (k.mem p.1 p.2).2 (h.2 p hp)

/-! ### the map's datum -/
abbrev DW := DataW Unit
def kl (k : Int) : Lit := .int .i64 k
def mpFrom (D : DW) (l : List (Int × Int)) : DW := l.foldl (fun D e => D.put (kl e.1) (.lit (.int .i64 e.2))) D
def mp (l : List (Int × Int)) : DW := mpFrom (.map []) l
theorem mpFrom_snoc (D : DW) (l : List (Int × Int)) (e : Int × Int) : mpFrom D (l ++ [e]) = (mpFrom D l).put (kl e.1) (.lit (.int .i64 e.2)) := by simp [mpFrom]
theorem mpFrom_append (D : DW) (a b : List (Int × Int)) : mpFrom D (a ++ b) = mpFrom (mpFrom D a) b := by simp [mpFrom]
theorem mpFrom_isMap {D : DW} (h : IsMap D) (l : List (Int × Int)) : IsMap (mpFrom D l) := by
  induction l using snocInd with
  | nil => exact h
  | snoc l e ih => rw [mpFrom_snoc]; exact ih.put _ _
/-- the datum reads as f -/
def Reads (D : DW) (f : Int → Option Int) : Prop := IsMap D ∧ ∀ k, has D (kl k) = (f k).isSome ∧ ∀ v, f k = some v → ∀ z, D.atKey (kl k) z = .lit (.int .i64 v)
theorem kl_inj {a b : Int} (h : kl a = kl b) : a = b := by simpa [kl] using h
theorem reads_empty : Reads (.map []) (fun _ => none) := ⟨isMap_empty, fun k => ⟨rfl, fun v h => by cases h⟩⟩
theorem Reads.put {D : DW} {f : Int → Option Int} (h : Reads D f) (e : Int × Int) : Reads (D.put (kl e.1) (.lit (.int .i64 e.2))) (fun k => if e.1 = k then some e.2 else f k) := by
  have hk : WideAt.IsKeyLit (kl e.1) := by unfold kl; first | trivial | exact Or.inl ⟨_, _, rfl⟩ | simp [WideAt.IsKeyLit]
  refine ⟨h.1.put _ _, fun k => ?_⟩
  by_cases hke : e.1 = k
  · subst hke
    simp only [if_true]
    exact ⟨has_put_same h.1 hk _, fun v hv z => by cases hv; exact atKey_put_same h.1 hk _ _⟩
  · simp only [if_neg hke]
    have hne : kl k ≠ kl e.1 := fun e2 => hke (kl_inj e2).symm
    exact ⟨(has_put_other hne _).trans (h.2 k).1, fun v hv z => (atKey_put_other hne _ _).trans ((h.2 k).2 v hv z)⟩
theorem Reads.from {D : DW} {f : Int → Option Int} (h : Reads D f) (l : List (Int × Int)) : Reads (mpFrom D l) (fun k => (lk l k).or (f k)) := by
  induction l using snocInd with
  | nil => simpa [mpFrom, lk] using h
  | snoc l e ih =>
    rw [mpFrom_snoc]
    have := ih.put e
    have e2 : (fun k => (lk (l ++ [e]) k).or (f k)) = fun k => if e.1 = k then some e.2 else (lk l k).or (f k) := by
      funext k; rw [lk_snoc]; split <;> simp
    rw [e2]; exact this
theorem reads_mp (l : List (Int × Int)) : Reads (mp l) (lk l) := by
  have := reads_empty.from l
  simpa [mp] using this
theorem reads_mp2 (m l : List (Int × Int)) : Reads (mpFrom (mp m) l) (lk (m ++ l)) := by
  have := reads_mp (m ++ l)
  rwa [mp, mpFrom_append] at this
/-- what has come out of a walk of the map -/
def ValI (D : DW) (p : Int × Int) : Prop := ∀ zd, D.atKey (kl p.1) zd = .lit (.int .i64 p.2)
theorem Reads.val {D : DW} {f : Int → Option Int} (h : Reads D f) {p : Int × Int} (hh : has D (kl p.1) = true) (hv : ValI D p) : f p.1 = some p.2 := by
  have h1 := (h.2 p.1).1
  rw [hh] at h1
  cases hf : f p.1 with
  | none => rw [hf] at h1; cases h1
  | some v =>
    have h2 := ((h.2 p.1).2 v hf (.map [])).symm.trans (hv (.map []))
    simp at h2
    rw [h2]
theorem Reads.allF {D : DW} {f : Int → Option Int} (h : Reads D f) {ps : List (Int × Int)} (hn : (ps.map (·.1)).Nodup) (hk : ∀ x, x ∈ ps.map (·.1) ↔ has D (kl x) = true) (hv : ∀ p ∈ ps, ValI D p) : AllF f ps := by
  refine ⟨hn, fun k v => ⟨fun hm => h.val ((hk k).1 (List.mem_map.2 ⟨_, hm, rfl⟩)) (hv _ hm), fun hf => ?_⟩⟩
  have h1 : has D (kl k) = true := by rw [(h.2 k).1, hf]; rfl
  obtain ⟨p, hp, e⟩ := List.mem_map.1 ((hk k).2 h1)
  have h2 := h.val (p := p) (by rw [e]; exact h1) (hv p hp)
  rw [e, hf] at h2
  obtain ⟨p1, p2⟩ := p
  simp at e h2
  subst e; subst h2
  exact hp
theorem Reads.partF {D : DW} {f : Int → Option Int} (h : Reads D f) {ps : List (Int × Int)} (hn : (ps.map (·.1)).Nodup) (hk : ∀ x ∈ ps.map (·.1), has D (kl x) = true) (hv : ∀ p ∈ ps, ValI D p) : PartF f ps :=
  ⟨hn, fun p hp => h.val (hk p.1 (List.mem_map.2 ⟨p, hp, rfl⟩)) (hv p hp)⟩
end Go.Proofs.Ytcgcfenenkdhlaa
