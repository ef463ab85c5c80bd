/- The plain law: the number that a place's coordinates make, and what the last place of a curve is. Conditions: coordinates of o bits. -/
import Derived.Test.YtidbohofjljkcaaDoorHilInj
namespace Hil
open Go Go.RowKit

/-- The number that coordinates make behind a number. -/
def code (o : Nat) (s : Int) (p : List Int) : Int := p.foldl (fun s x => s * 2 ^ o + x) s

theorem code_take (o : Nat) (s : Int) (p : List Int) (k : Nat) (hk : k < p.length) : code o s (p.take (k + 1)) = code o s (p.take k) * 2 ^ o + p.getD k 0 := by
  unfold code
  rw [List.take_succ_eq_append_getElem hk, List.foldl_append]
  simp [hk]

theorem code_bd (o : Nat) (p : List Int) : ∀ s, 0 ≤ s → Ins o p → 0 ≤ code o s p ∧ code o s p < (s + 1) * 2 ^ (o * p.length) := by
  have h2 := two_pow_pos o
  induction p with
  | nil => intro s hs _; simp [code]; omega
  | cons x xs ih =>
    intro s hs hin
    have hx := hin x (by simp)
    have hs2 : 0 ≤ s * 2 ^ o + x := by have := Int.mul_nonneg hs (Int.le_of_lt h2); omega
    have := ih (s * 2 ^ o + x) hs2 (fun z hz => hin z (by simp [hz]))
    refine ⟨this.1, Int.lt_of_lt_of_le this.2 ?_⟩
    have e : (2 : Int) ^ (o * (x :: xs).length) = 2 ^ o * 2 ^ (o * xs.length) := by
      rw [← Int.pow_add]; congr 1; simp [Nat.mul_add]; omega
    rw [e, ← Int.mul_assoc]
    refine Int.mul_le_mul_of_nonneg_right ?_ (Int.le_of_lt (two_pow_pos _))
    rw [Int.add_mul]
    omega

theorem code_inj (o : Nat) (p : List Int) : ∀ (q : List Int) (s t : Int), p.length = q.length → Ins o p → Ins o q → code o s p = code o t q → s = t ∧ p = q := by
  have h2 := two_pow_pos o
  induction p with
  | nil =>
    intro q s t hl _ _ h
    cases q with
    | nil => exact ⟨h, rfl⟩
    | cons y ys => simp at hl
  | cons x xs ih =>
    intro q s t hl hp hq h
    cases q with
    | nil => simp at hl
    | cons y ys =>
      obtain ⟨h1, h3⟩ := ih ys (s * 2 ^ o + x) (t * 2 ^ o + y) (by simpa using hl) (fun z hz => hp z (by simp [hz])) (fun z hz => hq z (by simp [hz])) h
      have hx := hp x (by simp)
      have hy := hq y (by simp)
      have e1 : (s * 2 ^ o + x) % 2 ^ o = x := by
        rw [Int.add_comm, Int.add_mul_emod_self_right, Int.emod_eq_of_lt hx.1 hx.2]
      have e2 : (t * 2 ^ o + y) % 2 ^ o = y := by
        rw [Int.add_comm, Int.add_mul_emod_self_right, Int.emod_eq_of_lt hy.1 hy.2]
      have hxy : x = y := by rw [← e1, ← e2, h1]
      subst hxy
      refine ⟨?_, by rw [h3]⟩
      have : s * 2 ^ o = t * 2 ^ o := by omega
      exact Int.eq_of_mul_eq_mul_right (Int.ne_of_gt h2) this

theorem or_low (o : Nat) (s x : Int) (hs : 0 ≤ s) (hx : 0 ≤ x ∧ x < 2 ^ o) (hb : s * 2 ^ o ≤ 4611686018427387904) (ho : o ≤ 62) : bits .or .i64 (s * 2 ^ o) x = s * 2 ^ o + x := by
  obtain ⟨m, rfl⟩ := Int.eq_ofNat_of_zero_le hs
  obtain ⟨y, rfl⟩ := Int.eq_ofNat_of_zero_le hx.1
  have e : ((m : Int) * 2 ^ o) = ((m * 2 ^ o : Nat) : Int) := by rw [Int.natCast_mul, Int.natCast_pow]; rfl
  have hy : y < 2 ^ o := by
    have := hx.2
    have h3 : ((2 : Int) ^ o) = ((2 ^ o : Nat) : Int) := by rw [Int.natCast_pow]; rfl
    rw [h3] at this
    exact_mod_cast this
  have hp : 2 ^ o ≤ 2 ^ 62 := Nat.pow_le_pow_right (by omega) ho
  rw [e] at hb ⊢
  rw [bits_or_i64 _ _ (by omega) (by omega)]
  have := Nat.shiftLeft_add_eq_or_of_lt hy m
  rw [Nat.shiftLeft_eq] at this
  rw [← this]
  simp

theorem fin_at (d n a : Nat) (hd : d = 2 ∨ d = 3 ∨ d = 4) (ha : a < d) : (fin d n).getD a 0 = if a + 1 = d then 2 ^ n - 1 else 0 := by
  rcases hd with rfl | rfl | rfl
  · have : a = 0 ∨ a = 1 := by omega
    rcases this with rfl | rfl <;> simp [fin]
  · have : a = 0 ∨ a = 1 ∨ a = 2 := by omega
    rcases this with rfl | rfl | rfl <;> simp [fin]
  · have : a = 0 ∨ a = 1 ∨ a = 2 ∨ a = 3 := by omega
    rcases this with rfl | rfl | rfl | rfl <;> simp [fin]

/-- Different positions make different numbers. -/
theorem code_place (d : Nat) (hd : d = 2 ∨ d = 3 ∨ d = 4) (o i j : Nat) (hi : i < 2 ^ (d * o)) (hj : j < 2 ^ (d * o)) (h : code o 0 (place d o i) = code o 0 (place d o j)) : i = j := by
  have := (code_inj o _ _ 0 0 (by rw [place_len, place_len]) (place_ins _ _ _) (place_ins _ _ _) h).2
  have := place_inj d hd o i j this
  rwa [Nat.mod_eq_of_lt hi, Nat.mod_eq_of_lt hj] at this

theorem way_zeros (d : Nat) : way (List.replicate d 0) (List.replicate d 0) = 0 := by
  induction d with
  | zero => rfl
  | succ d ih => simp [List.replicate_succ, way, ad_self, ih]
end Hil
