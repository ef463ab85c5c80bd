/- The plain law: a place of a curve, its last bits dropped, is the place of the coarser curve. Conditions: 2, 3 or 4 dimensions. -/
import Derived.Test.YtidbohofjljkcaaDoorHilLaw
namespace Hil

/-- Each number, its last k bits dropped. -/
def cut (k : Nat) (p : List Int) : List Int := p.map (· / 2 ^ k)

theorem pow_split (n k : Nat) (h : k ≤ n) : (2 : Int) ^ n = 2 ^ (n - k) * 2 ^ k := by
  rw [← Int.pow_add]; congr 1; omega

theorem inv_cut (n k : Nat) (h : k ≤ n) (x : Int) : inv n x / 2 ^ k = inv (n - k) (x / 2 ^ k) := by
  unfold inv
  have hk := two_pow_pos k
  rw [pow_split n k h]
  have e := Int.emod_add_mul_ediv x (2 ^ k)
  have m1 := Int.emod_nonneg x (Int.ne_of_gt hk)
  have m2 := Int.emod_lt_of_pos x hk
  have : (2 : Int) ^ (n - k) * 2 ^ k - 1 - x = (2 ^ k - 1 - x % 2 ^ k) + (2 ^ (n - k) - 1 - x / 2 ^ k) * 2 ^ k := by
    rw [Int.sub_mul, Int.sub_mul, Int.mul_comm (x / 2 ^ k)]
    omega
  rw [this, Int.add_mul_ediv_right _ _ (Int.ne_of_gt hk), Int.ediv_eq_zero_of_lt (by omega) (by omega)]
  omega

theorem add_cut (n k g : Nat) (h : k ≤ n) (x : Int) : (x + (g : Int) * 2 ^ n) / 2 ^ k = x / 2 ^ k + (g : Int) * 2 ^ (n - k) := by
  have hk := two_pow_pos k
  rw [pow_split n k h, ← Int.mul_assoc, Int.add_mul_ediv_right _ _ (Int.ne_of_gt hk)]

theorem addc_cut (n k e : Nat) (h : k ≤ n) (xs : List Int) : ∀ j, cut k (addc n e j xs) = addc (n - k) e j (cut k xs) := by
  induction xs with
  | nil => intro j; rfl
  | cons x r ih =>
    intro j
    have := ih (j + 1)
    simp only [cut, addc, List.map_cons] at this ⊢
    rw [add_cut n k _ h, this]

theorem rot_cut (d n k e : Nat) (hd : d = 2 ∨ d = 3 ∨ d = 4) (h : k ≤ n) (he : e < 2 ^ d) (p : List Int) (hp : p.length = d) : cut k (rot d n e p) = rot d (n - k) e (cut k p) := by
  rcases hd with rfl | rfl | rfl
  · obtain ⟨a, b, rfl⟩ := list2 hp
    rcases two_cases e he with rfl | rfl | rfl | rfl <;> simp [rot, rot2, swp, flp, cut, inv_cut n k h]
  · obtain ⟨a, b, c, rfl⟩ := list3 hp
    rcases three_cases e he with rfl | rfl | rfl | rfl | rfl | rfl | rfl | rfl <;> simp [rot, rot3, swp, flp, ivt, cut, inv_cut n k h]
  · obtain ⟨a, b, c, d, rfl⟩ := list4 hp
    rcases four_cases e he with rfl | rfl | rfl | rfl | rfl | rfl | rfl | rfl | rfl | rfl | rfl | rfl | rfl | rfl | rfl | rfl <;> simp [rot, rot4, swp, flp, ivt, cut, inv_cut n k h]

theorem cubes (d k : Nat) (hd : d = 2 ∨ d = 3 ∨ d = 4) (m : Nat) : ∀ P, cut k (place d (k + m) P) = place d m (P / 2 ^ (d * k)) := by
  induction m with
  | zero =>
    intro P
    have hin := place_ins d k P
    have hl := place_len d k P
    show cut k (place d k P) = List.replicate d 0
    apply List.ext_getElem?
    intro i
    by_cases hi : i < d
    · have hg := hin.getD (i := i) (by omega)
      have h0 : (place d k P)[i]? = some ((place d k P).getD i 0) := by simp [hl, hi]
      rw [List.getElem?_replicate, if_pos hi, cut, List.getElem?_map, h0]
      simp only [Option.map_some]
      rw [Int.ediv_eq_zero_of_lt hg.1 hg.2]
    · rw [List.getElem?_eq_none (by simp [cut]; omega), List.getElem?_eq_none (by simp; omega)]
  | succ m ih =>
    intro P
    have hdig : digit d (k + m) P = digit d m (P / 2 ^ (d * k)) := by
      unfold digit
      rw [Nat.div_div_eq_div_mul, ← Nat.pow_add, Nat.mul_add]
    show cut k (addc (k + m) (digit d (k + m) P) 0 (rot d (k + m) (digit d (k + m) P) (place d (k + m) P))) = addc m (digit d m (P / 2 ^ (d * k))) 0 (rot d m (digit d m (P / 2 ^ (d * k))) (place d m (P / 2 ^ (d * k))))
    rw [addc_cut _ _ _ (by omega), rot_cut d _ _ _ hd (by omega) (digit_lt _ _ _) _ (place_len _ _ _), ih P, hdig, show k + m - k = m from by omega]
end Hil
