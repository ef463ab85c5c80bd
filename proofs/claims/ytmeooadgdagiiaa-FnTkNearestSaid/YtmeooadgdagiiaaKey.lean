/- Finite float numbers as whole numbers, in their order. Conditions: none. -/
import Derived.Test.YtmeooadgdagiiaaFlt
namespace Lox
open Go Go.RowKit
set_option linter.unusedVariables false

/-- A finite float number, by its bits. -/
def Fin (x : Nat) : Prop := ∃ s m i, FloatKind.f64.decode x = .number s m i

/-- Its value, as a multiple of the least one. -/
def fk (x : Nat) : Int := match FloatKind.f64.decode x with
  | .number s m i => Ieee.signed s m (i + 1074).toNat
  | _ => 0

theorem read_place {x : Nat} {s : Bool} {m : Nat} {i : Int} (h : FloatKind.f64.decode x = .number s m i) : -1074 ≤ i := by
  unfold FloatKind.decode Ieee.Format.read at h
  have e : FloatKind.f64.format.leastPlace = -1074 := rfl
  simp only [e] at h
  split at h
  · cases h; omega
  · split at h
    · cases h; omega
    · split at h <;> cases h

theorem signed_shift (s : Bool) (m a b : Nat) : Ieee.signed s m (a + b) = Ieee.signed s m a * (2 ^ b : Nat) := by
  unfold Ieee.signed
  have : m <<< (a + b) = (m <<< a) * 2 ^ b := by
    rw [Nat.shiftLeft_eq, Nat.shiftLeft_eq, Nat.pow_add, Nat.mul_assoc]
  cases s
  · simp [this]
  · simp [this, Int.neg_mul]

theorem compare_mul (a b : Int) (k : Nat) (hk : 0 < k) : compare (a * (k : Int)) (b * (k : Int)) = compare a b := by
  have hk' : (0 : Int) < k := by omega
  simp only [compare, compareOfLessAndEq]
  have h1 : (a * (k : Int) < b * (k : Int)) ↔ a < b := ⟨fun h => Int.lt_of_mul_lt_mul_right h (by omega), fun h => Int.mul_lt_mul_of_pos_right h hk'⟩
  have h2 : (a * (k : Int) = b * (k : Int)) ↔ a = b := ⟨fun h => Int.eq_of_mul_eq_mul_right (by omega) h, fun h => by rw [h]⟩
  simp only [h1, h2]

/-- Two finite numbers stand as their values do. -/
theorem order_fk {x y : Nat} (hx : Fin x) (hy : Fin y) : FloatKind.f64.format.order x y = some (compare (fk x) (fk y)) := by
  obtain ⟨s, m, i, ex⟩ := hx
  obtain ⟨t, n, j, ey⟩ := hy
  have hi := read_place ex
  have hj := read_place ey
  have ex' : FloatKind.f64.format.read x = .number s m i := ex
  have ey' : FloatKind.f64.format.read y = .number t n j := ey
  unfold Ieee.Format.order fk
  rw [ex, ey, ex', ey']
  simp only [Ieee.Datum.order]
  have e1 : (i + 1074).toNat = (i - min i j).toNat + (min i j + 1074).toNat := by omega
  have e2 : (j + 1074).toNat = (j - min i j).toNat + (min i j + 1074).toNat := by omega
  rw [e1, e2, signed_shift, signed_shift, compare_mul _ _ _ (Nat.two_pow_pos _)]

theorem ord_lt {x y : Nat} (hx : Fin x) (hy : Fin y) : (FloatKind.f64.format.order x y == some .lt) = decide (fk x < fk y) := by
  rw [order_fk hx hy]
  simp only [compare, compareOfLessAndEq]
  by_cases h : fk x < fk y
  · simp [h]
  · by_cases h2 : fk x = fk y <;> simp [h, h2]

theorem ord_gt {x y : Nat} (hx : Fin x) (hy : Fin y) : (FloatKind.f64.format.order x y == some .gt) = decide (fk y < fk x) := by
  rw [order_fk hx hy]
  simp only [compare, compareOfLessAndEq]
  by_cases h : fk x < fk y
  · simp [h]; omega
  · by_cases h2 : fk x = fk y
    · simp [h2]
    · simp [h, h2]; omega

theorem ord_eq {x y : Nat} (hx : Fin x) (hy : Fin y) : (FloatKind.f64.format.order x y == some .eq) = decide (fk x = fk y) := by
  rw [order_fk hx hy]
  simp only [compare, compareOfLessAndEq]
  by_cases h : fk x < fk y
  · simp [h]; omega
  · by_cases h2 : fk x = fk y <;> simp [h, h2]

theorem ord_le {x y : Nat} (hx : Fin x) (hy : Fin y) : (FloatKind.f64.format.order x y == some .lt || FloatKind.f64.format.order x y == some .eq) = decide (fk x ≤ fk y) := by
  rw [ord_lt hx hy, ord_eq hx hy]
  by_cases h : fk x ≤ fk y
  · simp [h]; omega
  · simp [h]; omega

theorem ord_ge {x y : Nat} (hx : Fin x) (hy : Fin y) : (FloatKind.f64.format.order x y == some .gt || FloatKind.f64.format.order x y == some .eq) = decide (fk y ≤ fk x) := by
  rw [ord_gt hx hy, ord_eq hx hy]
  by_cases h : fk y ≤ fk x
  · simp [h]; omega
  · simp [h]; omega

/-- What stands between two finite numbers is finite. -/
theorem fin_between {x lo hi : Nat} (hlo : Fin lo) (hhi : Fin hi) (h1 : (FloatKind.f64.format.order x lo == some .gt || FloatKind.f64.format.order x lo == some .eq) = true) (h2 : (FloatKind.f64.format.order x hi == some .lt || FloatKind.f64.format.order x hi == some .eq) = true) : Fin x := by
  obtain ⟨s, m, i, el⟩ := hlo
  obtain ⟨t, n, j, eh⟩ := hhi
  have el' : FloatKind.f64.format.read lo = .number s m i := el
  have eh' : FloatKind.f64.format.read hi = .number t n j := eh
  unfold Ieee.Format.order at h1 h2
  rw [el'] at h1
  rw [eh'] at h2
  cases hx : FloatKind.f64.decode x with
  | number s' m' i' => exact ⟨s', m', i', hx⟩
  | infinity s' =>
    have hx' : FloatKind.f64.format.read x = .infinity s' := hx
    rw [hx'] at h1 h2
    cases s' <;> simp [Ieee.Datum.order] at h1 h2
  | nan s' t' =>
    have hx' : FloatKind.f64.format.read x = .nan s' t' := hx
    rw [hx'] at h1
    simp [Ieee.Datum.order] at h1

theorem fin_decide {x : Nat} {s : Bool} {m : Nat} {i : Int} (h : FloatKind.f64.decode x = .number s m i) : Fin x := ⟨s, m, i, h⟩
end Lox
