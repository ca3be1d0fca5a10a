/-
  Floats by their data: the order 'less, NaNs first' is a strict weak order; the laws' 'after' is that order the other way round. No program in sight.
-/
import Ieee.Arith
import Derived.Sort.Statements
namespace Go.Proofs.Ythefajbahbmohaa
open Ieee Go.Sort

theorem signed_up (s : Bool) (m u v : Nat) : signed s m (u + v) = signed s m u * ((2 ^ v : Nat) : Int) := by
  unfold signed
  cases s <;> simp [Nat.shiftLeft_eq, Nat.pow_add, Int.mul_assoc, Int.neg_mul]

theorem cmp_up (a b : Int) (v : Nat) : compare (a * ((2 ^ v : Nat) : Int)) (b * ((2 ^ v : Nat) : Int)) = compare a b := by
  have hp : (0 : Int) < ((2 ^ v : Nat) : Int) := by exact_mod_cast Nat.two_pow_pos v
  rcases Int.lt_trichotomy a b with h | h | h
  · rw [Int.compare_eq_lt.2 h, Int.compare_eq_lt]; exact Int.mul_lt_mul_of_pos_right h hp
  · subst h; rw [Int.compare_eq_eq.2 rfl, Int.compare_eq_eq.2 rfl]
  · rw [Int.compare_eq_gt.2 h, Int.compare_eq_gt]; exact Int.mul_lt_mul_of_pos_right h hp

/-- a datum's rank, at a base below every place in sight -/
def rk (B : Int) : Datum → Int × Int
  | .nan .. => (0, 0)
  | .infinity s => (if s then 1 else 3, 0)
  | .number s m i => (2, signed s m (i - B).toNat)
def cmpR (a b : Int × Int) : Ordering := (compare a.1 b.1).then (compare a.2 b.2)
def placeD : Datum → Int
  | .number _ _ i => i
  | _ => 0
theorem isNaN_iff (x : Datum) : (x.order x != some .eq) = x.isNaN := by
  cases x with
  | nan => rfl
  | infinity s => cases s <;> rfl
  | number s m i => simp [Datum.order, Datum.isNaN]
theorem order_rk (B : Int) (x y : Datum) (hx : B ≤ placeD x) (hy : B ≤ placeD y) (nx : x.isNaN = false) (ny : y.isNaN = false) : x.order y = some (cmpR (rk B x) (rk B y)) := by
  cases x with
  | nan => cases nx
  | infinity s =>
    cases y with
    | nan => cases ny
    | infinity t => cases s <;> cases t <;> rfl
    | number t n j => cases s <;> rfl
  | number s m i =>
    cases y with
    | nan => cases ny
    | infinity t => cases t <;> rfl
    | number t n j =>
      simp only [placeD] at hx hy
      simp only [Datum.order, rk, cmpR, Int.compare_eq_eq.2 rfl, Ordering.then]
      congr 1
      have e1 : (i - B).toNat = (i - min i j).toNat + (min i j - B).toNat := by omega
      have e2 : (j - B).toNat = (j - min i j).toNat + (min i j - B).toNat := by omega
      rw [e1, e2, signed_up, signed_up, cmp_up]
theorem rk_nan (B : Int) (x : Datum) (h : x.isNaN = true) : rk B x = (0, 0) := by cases x <;> first | rfl | cases h
theorem rk_pos (B : Int) (x : Datum) (h : x.isNaN = false) : 0 < (rk B x).1 := by
  cases x with
  | nan => cases h
  | infinity s => cases s <;> simp [rk]
  | number s m i => simp [rk]
def ltR (a b : Int × Int) : Bool := decide (a.1 < b.1) || (decide (a.1 = b.1) && decide (a.2 < b.2))
theorem cmpR_lt (a b : Int × Int) : (cmpR a b == .lt) = ltR a b := by
  unfold cmpR ltR
  rcases Int.lt_trichotomy a.1 b.1 with h | h | h
  · rw [Int.compare_eq_lt.2 h]; simp [h, Ordering.then]
  · rw [Int.compare_eq_eq.2 h]
    rcases Int.lt_trichotomy a.2 b.2 with h' | h' | h'
    · rw [Int.compare_eq_lt.2 h']; simp [h, h', Ordering.then]
    · rw [Int.compare_eq_eq.2 h']; simp [h, h', Ordering.then]
    · rw [Int.compare_eq_gt.2 h']; simp [h, Ordering.then]; omega
  · rw [Int.compare_eq_gt.2 h]; simp [Ordering.then]; omega
theorem cmpR_gt (a b : Int × Int) : (cmpR a b == .gt) = ltR b a := by
  unfold cmpR ltR
  rcases Int.lt_trichotomy a.1 b.1 with h | h | h
  · rw [Int.compare_eq_lt.2 h]; simp [Ordering.then]; omega
  · rw [Int.compare_eq_eq.2 h]
    rcases Int.lt_trichotomy a.2 b.2 with h' | h' | h'
    · rw [Int.compare_eq_lt.2 h']; simp [h, Ordering.then]; omega
    · rw [Int.compare_eq_eq.2 h']; simp [h, h', Ordering.then]
    · rw [Int.compare_eq_gt.2 h']; simp [h, h', Ordering.then]
  · rw [Int.compare_eq_gt.2 h]; simp [h, Ordering.then]
def ltD (x y : Datum) : Bool := ((x.order x != some .eq) && !(y.order y != some .eq)) || x.order y == some .lt
theorem order_nan (x y : Datum) (h : x.isNaN = true ∨ y.isNaN = true) : x.order y = none := by
  cases x <;> cases y <;> simp [Datum.isNaN] at h <;> rfl
theorem ltD_rk (B : Int) (x y : Datum) (hx : B ≤ placeD x) (hy : B ≤ placeD y) : ltD x y = ltR (rk B x) (rk B y) := by
  unfold ltD
  rw [isNaN_iff, isNaN_iff]
  cases nx : x.isNaN with
  | true =>
    rw [order_nan x y (Or.inl nx), rk_nan B x nx]
    cases ny : y.isNaN with
    | true => rw [rk_nan B y ny]; rfl
    | false => have := rk_pos B y ny; simp [ltR, this]
  | false =>
    cases ny : y.isNaN with
    | true => rw [order_nan x y (Or.inr ny), rk_nan B y ny]; have := rk_pos B x nx; simp [ltR]; omega
    | false => rw [order_rk B x y hx hy nx ny, ← cmpR_lt]; simp
/-- 'after' in the laws: the other way round -/
theorem after_ltD (x y : Datum) : (x.order y == some .gt || ((x.order x == some .eq) && (y.order y != some .eq))) = ltD y x := by
  have hB : min (placeD x) (placeD y) ≤ placeD x ∧ min (placeD x) (placeD y) ≤ placeD y := by omega
  rw [ltD_rk _ y x hB.2 hB.1, isNaN_iff, show (x.order x == some .eq) = !x.isNaN by rw [← isNaN_iff]; simp [bne]]
  generalize min (placeD x) (placeD y) = B at hB
  cases nx : x.isNaN with
  | true =>
    rw [order_nan x y (Or.inl nx), rk_nan B x nx]
    cases ny : y.isNaN with
    | true => rw [rk_nan B y ny]; rfl
    | false => have := rk_pos B y ny; simp [ltR]; omega
  | false =>
    cases ny : y.isNaN with
    | true => rw [order_nan x y (Or.inr ny), rk_nan B y ny]; have := rk_pos B x nx; simp [ltR, this]
    | false => rw [order_rk B x y hB.1 hB.2 nx ny, ← cmpR_gt]; simp
theorem ltR_irrefl (a : Int × Int) : ltR a a = false := by simp [ltR]
theorem ltR_trans {a b c : Int × Int} (h : ltR a b = true) (k : ltR b c = true) : ltR a c = true := by
  simp [ltR] at *; omega
theorem ltR_ntrans {a b c : Int × Int} (h : ltR a b = false) (k : ltR b c = false) : ltR a c = false := by
  simp [ltR] at *; omega
theorem ltD_swo : SWO ltD where
  irrefl x := by rw [ltD_rk (placeD x) x x (Int.le_refl _) (Int.le_refl _)]; exact ltR_irrefl _
  trans x y z h k := by
    have h1 : min (placeD x) (min (placeD y) (placeD z)) ≤ placeD x := by omega
    have h2 : min (placeD x) (min (placeD y) (placeD z)) ≤ placeD y := by omega
    have h3 : min (placeD x) (min (placeD y) (placeD z)) ≤ placeD z := by omega
    rw [ltD_rk _ _ _ h1 h2] at h
    rw [ltD_rk _ _ _ h2 h3] at k
    rw [ltD_rk _ _ _ h1 h3]
    exact ltR_trans h k
  ntrans x y z h k := by
    have h1 : min (placeD x) (min (placeD y) (placeD z)) ≤ placeD x := by omega
    have h2 : min (placeD x) (min (placeD y) (placeD z)) ≤ placeD y := by omega
    have h3 : min (placeD x) (min (placeD y) (placeD z)) ≤ placeD z := by omega
    rw [ltD_rk _ _ _ h1 h2] at h
    rw [ltD_rk _ _ _ h2 h3] at k
    rw [ltD_rk _ _ _ h1 h3]
    exact ltR_ntrans h k
end Go.Proofs.Ythefajbahbmohaa
