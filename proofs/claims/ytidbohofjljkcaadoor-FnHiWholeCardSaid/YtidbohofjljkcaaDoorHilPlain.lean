/- The plain laws of the Hilbert curves' places: how many coordinates, that they lie in the cube. Conditions: 2, 3 or 4 dimensions. -/
import Derived.Test.YtidbohofjljkcaaDoorHilDef
namespace Hil

theorem addc_len (n e : Nat) (xs : List Int) : ∀ k, (addc n e k xs).length = xs.length := by
  induction xs with
  | nil => intro k; rfl
  | cons x r ih => intro k; simp [addc, ih]

theorem rot2_len (n e : Nat) (xs : List Int) : (rot2 n e xs).length = xs.length := by
  unfold rot2; split <;> simp [len_swp, len_flp]
theorem rot3_len (n e : Nat) (xs : List Int) : (rot3 n e xs).length = xs.length := by
  unfold rot3; split <;> simp [len_swp, len_flp, len_ivt]
theorem rot4_len (n e : Nat) (xs : List Int) : (rot4 n e xs).length = xs.length := by
  unfold rot4; split <;> simp [len_swp, len_flp, len_ivt]
theorem rot_len (d n e : Nat) (xs : List Int) : (rot d n e xs).length = xs.length := by
  unfold rot; split
  · exact rot2_len _ _ _
  · exact rot3_len _ _ _
  · exact rot4_len _ _ _
  · rfl

theorem place_len (d n P : Nat) : (place d n P).length = d := by
  induction n with
  | zero => simp [place]
  | succ n ih => simp [place, addc_len, rot_len, ih]

theorem rot2_ins {n e : Nat} {xs : List Int} (hl : xs.length = 2) (h : Ins n xs) : Ins n (rot2 n e xs) := by
  unfold rot2
  split
  · exact h.swp (by omega) (by omega)
  · exact h.flp (by omega) (by omega)
  · exact h

theorem rot3_ins {n e : Nat} {xs : List Int} (hl : xs.length = 3) (h : Ins n xs) : Ins n (rot3 n e xs) := by
  unfold rot3
  split
  · exact (h.swp (by omega) (by omega)).swp (by rw [len_swp]; omega) (by rw [len_swp]; omega)
  · exact (h.swp (by omega) (by omega)).swp (by rw [len_swp]; omega) (by rw [len_swp]; omega)
  · exact (h.swp (by omega) (by omega)).swp (by rw [len_swp]; omega) (by rw [len_swp]; omega)
  · exact h.ivt (by omega) (by omega)
  · exact h.ivt (by omega) (by omega)
  · exact (h.flp (by omega) (by omega)).flp (by rw [len_flp]; omega) (by rw [len_flp]; omega)
  · exact (h.flp (by omega) (by omega)).flp (by rw [len_flp]; omega) (by rw [len_flp]; omega)
  · exact (h.flp (by omega) (by omega)).flp (by rw [len_flp]; omega) (by rw [len_flp]; omega)
  · exact h

theorem rot4_ins {n e : Nat} {xs : List Int} (hl : xs.length = 4) (h : Ins n xs) : Ins n (rot4 n e xs) := by
  unfold rot4
  split
  all_goals first
    | exact h
    | exact h.ivt (by omega) (by omega)
    | exact (h.swp (by omega) (by omega)).swp (by rw [len_swp]; omega) (by rw [len_swp]; omega)
    | exact (h.swp (by omega) (by omega)).flp (by rw [len_swp]; omega) (by rw [len_swp]; omega)
    | exact (h.flp (by omega) (by omega)).flp (by rw [len_flp]; omega) (by rw [len_flp]; omega)

theorem rot_ins {d n e : Nat} {xs : List Int} (hl : xs.length = d) (h : Ins n xs) : Ins n (rot d n e xs) := by
  unfold rot
  split
  · exact rot2_ins hl h
  · exact rot3_ins hl h
  · exact rot4_ins hl h
  · exact h

theorem gb_lt (e k : Nat) : gb e k < 2 := Nat.mod_lt _ (by decide)

theorem addc_ins {n e : Nat} {xs : List Int} (h : Ins n xs) : ∀ k, Ins (n + 1) (addc n e k xs) := by
  induction xs with
  | nil => intro k x hx; simp [addc] at hx
  | cons x r ih =>
    intro k y hy
    have hp := two_pow_pos n
    have hs : (2 : Int) ^ (n + 1) = 2 ^ n * 2 := Int.pow_succ 2 n
    simp only [addc, List.mem_cons] at hy
    rcases hy with rfl | hy
    · have hx := h x (by simp)
      have hg := gb_lt e k
      have : gb e k = 0 ∨ gb e k = 1 := by omega
      rcases this with h0 | h0 <;> rw [h0] <;> simp <;> omega
    · exact ih (fun z hz => h z (by simp [hz])) (k + 1) y hy

theorem place_ins (d n P : Nat) : Ins n (place d n P) := by
  induction n with
  | zero =>
    intro x hx
    simp [place] at hx
    simp [hx]
  | succ n ih => exact addc_ins (rot_ins (place_len d n P) ih) 0

end Hil
namespace Hil
open Go Go.RowKit

theorem wrap_step (n r : Nat) (v : Int) (hn : n ≤ 61) (hr : r < 2) (h : 0 ≤ v ∧ v < 2 ^ n) : wrap64 (v + wrap64 ((r : Int) * 2 ^ n)) = v + (r : Int) * 2 ^ n := by
  have hp := two_pow_pos n
  have hq := two_pow_le n (by omega)
  have hs : (2 : Int) ^ (n + 1) = 2 ^ n * 2 := Int.pow_succ 2 n
  have hq := two_pow_le (n + 1) (by omega)
  have : r = 0 ∨ r = 1 := by omega
  rcases this with rfl | rfl <;> (unfold wrap64; simp; omega)

theorem digit_and (d P n : Nat) (hd : d ≤ 4) (hP : P < 9223372036854775808) : bits .and .i64 ((P / (2 ^ d) ^ n : Nat) : Int) ((2 ^ d - 1 : Nat) : Int) = (digit d n P : Int) := by
  have : 2 ^ d ≤ 2 ^ 4 := Nat.pow_le_pow_right (by omega) hd
  rw [bits_and_i64 _ _ (Nat.lt_of_le_of_lt (Nat.div_le_self _ _) hP) (by omega), Nat.and_two_pow_sub_one_eq_mod, ← Nat.pow_mul]
  rfl

theorem digit_lt (d n P : Nat) : digit d n P < 2 ^ d := Nat.mod_lt _ (Nat.two_pow_pos d)

theorem gray_bit (a b : Nat) (ha : a < 16) (hb : b < 16) : bits .and .i64 (bits .xor .i64 (a : Int) (b : Int)) 1 = (((a ^^^ b) % 2 : Nat) : Int) := by
  have hx : a ^^^ b < 2 ^ 4 := Nat.xor_lt_two_pow (by omega) (by omega)
  rw [bits_xor_i64 a b (by omega) (by omega)]
  show bits .and .i64 ((a ^^^ b : Nat) : Int) ((1 : Nat) : Int) = _
  rw [bits_and_i64 _ 1 (by omega) (by omega)]
  exact congrArg _ (Nat.and_two_pow_sub_one_eq_mod (a ^^^ b) 1)

theorem gb2_0 (e : Nat) (h : e < 4) : gb e 0 = (e ^^^ (e / 2)) % 2 := by
  have : e = 0 ∨ e = 1 ∨ e = 2 ∨ e = 3 := by omega
  rcases this with rfl | rfl | rfl | rfl <;> rfl
theorem gb2_1 (e : Nat) (h : e < 4) : gb e 1 = e / 2 := by
  have : e = 0 ∨ e = 1 ∨ e = 2 ∨ e = 3 := by omega
  rcases this with rfl | rfl | rfl | rfl <;> rfl
theorem gb3_0 (e : Nat) (h : e < 8) : gb e 0 = (e ^^^ (e / 2)) % 2 := by
  have : e = 0 ∨ e = 1 ∨ e = 2 ∨ e = 3 ∨ e = 4 ∨ e = 5 ∨ e = 6 ∨ e = 7 := by omega
  rcases this with rfl | rfl | rfl | rfl | rfl | rfl | rfl | rfl <;> rfl
theorem gb3_1 (e : Nat) (h : e < 8) : gb e 1 = ((e / 2) ^^^ (e / 4)) % 2 := by
  have : e = 0 ∨ e = 1 ∨ e = 2 ∨ e = 3 ∨ e = 4 ∨ e = 5 ∨ e = 6 ∨ e = 7 := by omega
  rcases this with rfl | rfl | rfl | rfl | rfl | rfl | rfl | rfl <;> rfl
theorem gb3_2 (e : Nat) (h : e < 8) : gb e 2 = e / 4 := by
  have : e = 0 ∨ e = 1 ∨ e = 2 ∨ e = 3 ∨ e = 4 ∨ e = 5 ∨ e = 6 ∨ e = 7 := by omega
  rcases this with rfl | rfl | rfl | rfl | rfl | rfl | rfl | rfl <;> rfl
theorem gb4_k (e k : Nat) (h : e < 16) (hk : k < 4) : gb e k = ((e / 2 ^ k) ^^^ (e / 2 ^ k / 2)) % 2 := by
  have : e = 0 ∨ e = 1 ∨ e = 2 ∨ e = 3 ∨ e = 4 ∨ e = 5 ∨ e = 6 ∨ e = 7 ∨ e = 8 ∨ e = 9 ∨ e = 10 ∨ e = 11 ∨ e = 12 ∨ e = 13 ∨ e = 14 ∨ e = 15 := by omega
  have hk' : k = 0 ∨ k = 1 ∨ k = 2 ∨ k = 3 := by omega
  rcases hk' with rfl | rfl | rfl | rfl <;> rcases this with rfl | rfl | rfl | rfl | rfl | rfl | rfl | rfl | rfl | rfl | rfl | rfl | rfl | rfl | rfl | rfl <;> rfl

theorem div_step (P d k : Nat) : P / (2 ^ d) ^ k / 2 ^ d = P / (2 ^ d) ^ (k + 1) := by
  rw [Nat.div_div_eq_div_mul, Nat.pow_succ]
end Hil
namespace Hil
/-- A place of which the first m coordinates have got their new bit. -/
def padd (n e m : Nat) (xs : List Int) : List Int := addc n e 0 (xs.take m) ++ xs.drop m
theorem padd4 (n e m : Nat) (a b c d : Int) (hm : m < 4) : padd n e (m + 1) [a, b, c, d] = (padd n e m [a, b, c, d]).set m ([a, b, c, d].getD m 0 + (gb e m : Int) * 2 ^ n) := by
  have : m = 0 ∨ m = 1 ∨ m = 2 ∨ m = 3 := by omega
  rcases this with rfl | rfl | rfl | rfl <;> rfl
theorem padd4_at (n e m : Nat) (a b c d : Int) (hm : m < 4) : (padd n e m [a, b, c, d])[m]? = some ([a, b, c, d].getD m 0) := by
  have : m = 0 ∨ m = 1 ∨ m = 2 ∨ m = 3 := by omega
  rcases this with rfl | rfl | rfl | rfl <;> rfl
theorem padd4_all (n e : Nat) (a b c d : Int) : padd n e 4 [a, b, c, d] = addc n e 0 [a, b, c, d] := rfl
end Hil
