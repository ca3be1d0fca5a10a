/-
  Strings, byte by byte: the order, the sorted list. No program in sight.
-/
import Derived.Test.YthefajbahbmohaaPlain
namespace Go.Proofs.Ythefajbahbmohaa
set_option linter.unusedVariables false
set_option linter.unusedSimpArgs false

abbrev bytes (x : ByteArray) : List UInt8 := x.data.toList
theorem bytes_inj {x y : ByteArray} (h : bytes x = bytes y) : x = y := by
  cases x; cases y; simp [bytes] at h; rw [ByteArray.mk.injEq]; exact h
def leS (x y : ByteArray) : Bool := decide (bytes x ≤ bytes y)
theorem leS_trans (a b c : ByteArray) (h1 : leS a b = true) (h2 : leS b c = true) : leS a c = true := by
  unfold leS at *; simp only [decide_eq_true_eq] at *; exact List.le_trans h1 h2
theorem leS_total (a b : ByteArray) : (leS a b || leS b a) = true := by
  unfold leS; simp only [Bool.or_eq_true, decide_eq_true_eq]; exact List.le_total _ _
theorem leS_refl (a : ByteArray) : leS a a = true := by
  unfold leS; simp only [decide_eq_true_eq]; exact List.le_refl _
theorem leS_antisymm (a b : ByteArray) (h1 : leS a b = true) (h2 : leS b a = true) : a = b := by
  unfold leS at *; simp only [decide_eq_true_eq] at *; exact bytes_inj (List.le_antisymm h1 h2)
theorem leS_of_not {a b : ByteArray} (h : ¬ bytes b < bytes a) : leS a b = true := by
  unfold leS; simp only [decide_eq_true_eq]; exact List.not_lt.1 h
theorem leS_of_lt {a b : ByteArray} (h : bytes a < bytes b) : leS a b = true := by
  unfold leS; simp only [decide_eq_true_eq]; exact List.le_of_lt h
def srtS (zs : List ByteArray) : List ByteArray := zs.mergeSort leS
theorem srtS_perm (zs : List ByteArray) : (srtS zs).Perm zs := List.mergeSort_perm _ _
theorem srtS_length (zs : List ByteArray) : (srtS zs).length = zs.length := (srtS_perm zs).length_eq
theorem srtS_sorted (zs : List ByteArray) : (srtS zs).Pairwise (fun a b => leS a b = true) := List.pairwise_mergeSort leS_trans leS_total zs
theorem srtS_bytes (zs : List ByteArray) : (zs.map bytes).mergeSort (fun x y => decide (x ≤ y)) = (srtS zs).map bytes :=
  (List.map_mergeSort (r := leS) (s := fun x y => decide (x ≤ y)) (f := bytes) fun a _ b _ => rfl).symm
theorem select_stepS {zs L : List ByteArray} {k at' : Nat} {x : ByteArray} (hp : L.Perm ((srtS zs).drop k)) (hx : L[at']? = some x) (hmin : ∀ y ∈ L, leS x y = true) :
    (srtS zs)[k]? = some x ∧ (L.eraseIdx at').Perm ((srtS zs).drop (k + 1)) := by
  have hs : ((srtS zs).drop k).Pairwise (fun a b => leS a b = true) := (srtS_sorted zs).sublist (List.drop_sublist _ _)
  have hxm : x ∈ L := List.mem_of_getElem? hx
  obtain ⟨hat, hxe⟩ := List.getElem?_eq_some_iff.1 hx
  have hk : k < (srtS zs).length := by
    have h1 := hp.length_eq
    rw [List.length_drop] at h1
    omega
  rw [List.drop_eq_getElem_cons hk] at hs hp
  have h1 : (srtS zs)[k] = x := by
    have h2 : (srtS zs)[k] ∈ L := hp.mem_iff.2 List.mem_cons_self
    have h3 := hmin _ h2
    have h4 : x ∈ (srtS zs)[k] :: (srtS zs).drop (k + 1) := hp.mem_iff.1 hxm
    rcases List.mem_cons.1 h4 with h5 | h5
    · exact h5.symm
    · exact leS_antisymm _ _ ((List.pairwise_cons.1 hs).1 x h5) h3
  refine ⟨by rw [List.getElem?_eq_getElem hk, h1], ?_⟩
  have h7 : (x :: L.eraseIdx at').Perm L := by
    have h8 := cons_eraseIdx_perm L hat
    rw [hxe] at h8
    exact h8
  rw [h1] at hp
  exact (h7.trans hp).cons_inv

/-- the place of the least of the first j -/
def LeastS (L : List ByteArray) (j a : Nat) : Prop := ∀ x, L[a]? = some x → ∀ i y, i < j → L[i]? = some y → leS x y = true
theorem LeastS.keep {L : List ByteArray} {j a : Nat} {x y : ByteArray} (h : LeastS L j a) (hx : L[a]? = some x) (hy : L[j]? = some y) (hle : leS x y = true) : LeastS L (j + 1) a := by
  intro x' hx' i z hi hz
  obtain rfl : x = x' := by rw [hx] at hx'; exact Option.some.inj hx'
  rcases Nat.lt_or_ge i j with h1 | h1
  · exact h x hx i z h1 hz
  · obtain rfl : i = j := by omega
    obtain rfl : y = z := by rw [hy] at hz; exact Option.some.inj hz
    exact hle
theorem LeastS.next {L : List ByteArray} {j a : Nat} {x y : ByteArray} (h : LeastS L j a) (hx : L[a]? = some x) (hy : L[j]? = some y) (hlt : leS y x = true) : LeastS L (j + 1) j := by
  intro x' hx' i z hi hz
  obtain rfl : y = x' := by rw [hy] at hx'; exact Option.some.inj hx'
  rcases Nat.lt_or_ge i j with h1 | h1
  · exact leS_trans _ _ _ hlt (h x hx i z h1 hz)
  · obtain rfl : i = j := by omega
    obtain rfl : y = z := by rw [hy] at hz; exact Option.some.inj hz
    exact leS_refl _
theorem LeastS.all {L : List ByteArray} {a : Nat} {x : ByteArray} (h : LeastS L L.length a) (hx : L[a]? = some x) : ∀ y ∈ L, leS x y = true := by
  intro y hy
  obtain ⟨i, hi, rfl⟩ := List.mem_iff_getElem.1 hy
  exact h x hx i _ hi (List.getElem?_eq_getElem hi)

/-- at the first byte that differs .. -/
theorem lt_at : ∀ (k : Nat) (a b : List UInt8) (x y : UInt8), a.take k = b.take k → a[k]? = some x → b[k]? = some y → x ≠ y → (a < b ↔ x < y)
  | 0, a, b, x, y, _, ha, hb, hne => by
    cases a with
    | nil => simp at ha
    | cons a0 a =>
      cases b with
      | nil => simp at hb
      | cons b0 b =>
        simp at ha hb
        subst ha hb
        rw [List.cons_lt_cons_iff]
        exact ⟨fun h => h.elim id fun h => absurd h.1 hne, Or.inl⟩
  | k + 1, a, b, x, y, h, ha, hb, hne => by
    cases a with
    | nil => simp at ha
    | cons a0 a =>
      cases b with
      | nil => simp at hb
      | cons b0 b =>
        simp at ha hb h
        obtain ⟨rfl, h⟩ := h
        rw [List.cons_lt_cons_self]
        exact lt_at k a b x y h ha hb hne
/-- .. or at the end of one -/
theorem lt_end : ∀ (k : Nat) (a b : List UInt8), a.take k = b.take k → k ≤ a.length → k ≤ b.length → (k = a.length ∨ k = b.length) → (a < b ↔ a.length < b.length)
  | 0, a, b, _, _, _, he => by
    cases a with
    | nil => cases b <;> simp
    | cons a0 a =>
      cases b with
      | nil => simp
      | cons b0 b => simp at he
  | k + 1, a, b, h, ha, hb, he => by
    cases a with
    | nil => simp at ha
    | cons a0 a =>
      cases b with
      | nil => simp at hb
      | cons b0 b =>
        simp at ha hb h he
        obtain ⟨rfl, h⟩ := h
        rw [List.cons_lt_cons_self, lt_end k a b h ha hb he]
        simp
end Go.Proofs.Ythefajbahbmohaa
