/- The plain law of the Hilbert curves' steps: from each place to the next one just one coordinate changes, by 1. Conditions: 2, 3 or 4 dimensions; positions on the curve. -/
import Derived.Test.YtidbohofjljkcaaDoorHilPlain
namespace Hil

/-- The difference of two numbers. -/
def ad (x y : Int) : Int := max (x - y) (y - x)

/-- The sum of the differences of two places' coordinates. -/
def way : List Int → List Int → Int
  | x :: xs, y :: ys => ad x y + way xs ys
  | _, _ => 0

theorem way_take (p q : List Int) (k : Nat) (hp : k < p.length) (hq : k < q.length) : way (p.take (k + 1)) (q.take (k + 1)) = way (p.take k) (q.take k) + max (p.getD k 0 - q.getD k 0) (q.getD k 0 - p.getD k 0) := by
  induction p generalizing q k with
  | nil => simp at hp
  | cons x xs ih =>
    cases q with
    | nil => simp at hq
    | cons y ys =>
      cases k with
      | zero => simp [way, ad]
      | succ k =>
        simp only [List.take_succ_cons, way]
        rw [ih ys k (by simpa using hp) (by simpa using hq)]
        simp
        omega

theorem way_bd (p q : List Int) (n : Nat) (hp : Ins n p) (hq : Ins n q) : 0 ≤ way p q ∧ way p q ≤ p.length * 2 ^ n := by
  have h2 := two_pow_pos n
  induction p generalizing q with
  | nil => simp [way]
  | cons x xs ih =>
    cases q with
    | nil => simp [way]; exact Int.mul_nonneg (by omega) (by omega)
    | cons y ys =>
      have := ih ys (fun z hz => hp z (by simp [hz])) (fun z hz => hq z (by simp [hz]))
      have hx := hp x (by simp)
      have hy := hq y (by simp)
      simp only [way, ad, List.length_cons, Int.natCast_add, Int.add_mul]
      omega

theorem ad_inv (n : Nat) (x y : Int) : ad (inv n x) (inv n y) = ad x y := by unfold ad inv; omega
theorem ad_add (x y z : Int) : ad (x + z) (y + z) = ad x y := by unfold ad; omega
theorem ad_self (x : Int) : ad x x = 0 := by unfold ad; omega

theorem way_addc (n e : Nat) (xs : List Int) : ∀ (ys : List Int) (k : Nat), way (addc n e k xs) (addc n e k ys) = way xs ys := by
  induction xs with
  | nil => intro ys k; cases ys <;> rfl
  | cons x xs ih =>
    intro ys k
    cases ys with
    | nil => rfl
    | cons y ys => simp only [addc, way, ih, ad_add]

theorem two_cases (e : Nat) (h : e < 4) : e = 0 ∨ e = 1 ∨ e = 2 ∨ e = 3 := by omega
theorem three_cases (e : Nat) (h : e < 8) : e = 0 ∨ e = 1 ∨ e = 2 ∨ e = 3 ∨ e = 4 ∨ e = 5 ∨ e = 6 ∨ e = 7 := by omega
theorem four_cases (e : Nat) (h : e < 16) : e = 0 ∨ e = 1 ∨ e = 2 ∨ e = 3 ∨ e = 4 ∨ e = 5 ∨ e = 6 ∨ e = 7 ∨ e = 8 ∨ e = 9 ∨ e = 10 ∨ e = 11 ∨ e = 12 ∨ e = 13 ∨ e = 14 ∨ e = 15 := by omega

theorem way_rot2 (n e : Nat) (a b x y : Int) (h : e < 4) : way (rot2 n e [a, b]) (rot2 n e [x, y]) = way [a, b] [x, y] := by
  rcases two_cases e h with rfl | rfl | rfl | rfl <;> simp [rot2, swp, flp, way, ad_inv] <;> omega

theorem way_rot3 (n e : Nat) (a b c x y z : Int) (h : e < 8) : way (rot3 n e [a, b, c]) (rot3 n e [x, y, z]) = way [a, b, c] [x, y, z] := by
  rcases three_cases e h with rfl | rfl | rfl | rfl | rfl | rfl | rfl | rfl <;> simp [rot3, swp, flp, ivt, way, ad_inv] <;> omega

theorem way_rot4 (n e : Nat) (a b c d x y z t : Int) (h : e < 16) : way (rot4 n e [a, b, c, d]) (rot4 n e [x, y, z, t]) = way [a, b, c, d] [x, y, z, t] := by
  rcases four_cases e h with rfl | rfl | rfl | rfl | rfl | rfl | rfl | rfl | rfl | rfl | rfl | rfl | rfl | rfl | rfl | rfl <;> simp [rot4, swp, flp, ivt, way, ad_inv] <;> omega

/-- Where a curve of the order n ends. -/
def fin (d n : Nat) : List Int := match d with
  | 2 => [0, 2 ^ n - 1]
  | 3 => [0, 0, 2 ^ n - 1]
  | 4 => [0, 0, 0, 2 ^ n - 1]
  | _ => []

theorem list2 {p : List Int} (h : p.length = 2) : ∃ a b, p = [a, b] := by
  match p, h with
  | [a, b], _ => exact ⟨a, b, rfl⟩
theorem list3 {p : List Int} (h : p.length = 3) : ∃ a b c, p = [a, b, c] := by
  match p, h with
  | [a, b, c], _ => exact ⟨a, b, c, rfl⟩
theorem list4 {p : List Int} (h : p.length = 4) : ∃ a b c d, p = [a, b, c, d] := by
  match p, h with
  | [a, b, c, d], _ => exact ⟨a, b, c, d, rfl⟩

theorem way_rot (d n e : Nat) (p q : List Int) (hd : d = 2 ∨ d = 3 ∨ d = 4) (h : e < 2 ^ d) (hp : p.length = d) (hq : q.length = d) : way (rot d n e p) (rot d n e q) = way p q := by
  rcases hd with rfl | rfl | rfl
  · obtain ⟨a, b, rfl⟩ := list2 hp
    obtain ⟨x, y, rfl⟩ := list2 hq
    exact way_rot2 n e a b x y h
  · obtain ⟨a, b, c, rfl⟩ := list3 hp
    obtain ⟨x, y, z, rfl⟩ := list3 hq
    exact way_rot3 n e a b c x y z h
  · obtain ⟨a, b, c, d, rfl⟩ := list4 hp
    obtain ⟨x, y, z, t, rfl⟩ := list4 hq
    exact way_rot4 n e a b c d x y z t h

theorem pow_succ' (n : Nat) : (2 : Int) ^ (n + 1) = 2 ^ n * 2 := Int.pow_succ 2 n

theorem cross2 (n e : Nat) (h : e < 3) : way (addc n (e + 1) 0 (rot2 n (e + 1) [0, 0])) (addc n e 0 (rot2 n e (fin 2 n))) = 1 := by
  have := two_pow_pos n
  have : e = 0 ∨ e = 1 ∨ e = 2 := by omega
  rcases this with rfl | rfl | rfl <;> simp [rot2, swp, flp, fin, addc, gb, way, inv, ad] <;> omega

theorem cross3 (n e : Nat) (h : e < 7) : way (addc n (e + 1) 0 (rot3 n (e + 1) [0, 0, 0])) (addc n e 0 (rot3 n e (fin 3 n))) = 1 := by
  have := two_pow_pos n
  have : e = 0 ∨ e = 1 ∨ e = 2 ∨ e = 3 ∨ e = 4 ∨ e = 5 ∨ e = 6 := by omega
  rcases this with rfl | rfl | rfl | rfl | rfl | rfl | rfl <;> simp [rot3, swp, flp, ivt, fin, addc, gb, way, inv, ad] <;> omega

theorem cross4 (n e : Nat) (h : e < 15) : way (addc n (e + 1) 0 (rot4 n (e + 1) [0, 0, 0, 0])) (addc n e 0 (rot4 n e (fin 4 n))) = 1 := by
  have := two_pow_pos n
  have : e = 0 ∨ e = 1 ∨ e = 2 ∨ e = 3 ∨ e = 4 ∨ e = 5 ∨ e = 6 ∨ e = 7 ∨ e = 8 ∨ e = 9 ∨ e = 10 ∨ e = 11 ∨ e = 12 ∨ e = 13 ∨ e = 14 := by omega
  rcases this with rfl | rfl | rfl | rfl | rfl | rfl | rfl | rfl | rfl | rfl | rfl | rfl | rfl | rfl | rfl <;> simp [rot4, swp, flp, ivt, fin, addc, gb, way, inv, ad] <;> omega

theorem cross (d n e : Nat) (hd : d = 2 ∨ d = 3 ∨ d = 4) (h : e + 1 < 2 ^ d) : way (addc n (e + 1) 0 (rot d n (e + 1) (List.replicate d 0))) (addc n e 0 (rot d n e (fin d n))) = 1 := by
  rcases hd with rfl | rfl | rfl
  · exact cross2 n e (by omega)
  · exact cross3 n e (by omega)
  · exact cross4 n e (by omega)

theorem fin_succ (d n : Nat) (hd : d = 2 ∨ d = 3 ∨ d = 4) : addc n (2 ^ d - 1) 0 (rot d n (2 ^ d - 1) (fin d n)) = fin d (n + 1) := by
  have := two_pow_pos n
  have := pow_succ' n
  rcases hd with rfl | rfl | rfl
  · simp [rot, rot2, flp, fin, addc, gb, inv]; omega
  · simp [rot, rot3, flp, fin, addc, gb, inv]; omega
  · simp [rot, rot4, flp, fin, addc, gb, inv]; omega

theorem zero_succ (d n : Nat) (hd : d = 2 ∨ d = 3 ∨ d = 4) : addc n 0 0 (rot d n 0 (List.replicate d 0)) = List.replicate d 0 := by
  rcases hd with rfl | rfl | rfl <;> simp [rot, rot2, rot3, rot4, swp, addc, gb, List.replicate]

theorem fin_zero (d : Nat) (hd : d = 2 ∨ d = 3 ∨ d = 4) : fin d 0 = List.replicate d 0 := by
  rcases hd with rfl | rfl | rfl <;> simp [fin, List.replicate]

theorem ends (d : Nat) (hd : d = 2 ∨ d = 3 ∨ d = 4) (n : Nat) : ∀ P, (P + 1) % 2 ^ (d * n) = 0 → place d n (P + 1) = List.replicate d 0 ∧ place d n P = fin d n := by
  induction n with
  | zero => intro P _; exact ⟨rfl, by rw [fin_zero d hd]; rfl⟩
  | succ n ih =>
    intro P hP
    have hD : 0 < 2 ^ d := Nat.two_pow_pos d
    have hM : 0 < 2 ^ (d * n) := Nat.two_pow_pos _
    have e : 2 ^ (d * (n + 1)) = 2 ^ (d * n) * 2 ^ d := by rw [Nat.mul_succ, Nat.pow_add]
    rw [e] at hP
    have h0 : (P + 1) % 2 ^ (d * n) = 0 := by
      have := Nat.mod_mul_right_mod (P + 1) (2 ^ (d * n)) (2 ^ d)
      rw [hP] at this
      simpa using this.symm
    obtain ⟨i1, i2⟩ := ih P h0
    have hq : (P + 1) / 2 ^ (d * n) = P / 2 ^ (d * n) + 1 := Nat.succ_div_of_mod_eq_zero h0
    have hdv : ((P + 1) / 2 ^ (d * n)) % 2 ^ d = 0 := by
      rw [Nat.mod_mul] at hP
      have h2 := (Nat.add_eq_zero_iff.1 hP).2
      rcases Nat.mul_eq_zero.1 h2 with h3 | h3
      · omega
      · exact h3
    have d1 : digit d n (P + 1) = 0 := hdv
    have d0 : digit d n P = 2 ^ d - 1 := by
      unfold digit
      rw [hq] at hdv
      have := Nat.mod_lt (P / 2 ^ (d * n)) hD
      have h4 : (P / 2 ^ (d * n) % 2 ^ d + 1) % 2 ^ d = 0 := by rw [Nat.mod_add_mod]; exact hdv
      rcases Nat.lt_or_ge (P / 2 ^ (d * n) % 2 ^ d + 1) (2 ^ d) with h5 | h5
      · rw [Nat.mod_eq_of_lt h5] at h4; omega
      · omega
    constructor
    · show addc n (digit d n (P + 1)) 0 (rot d n (digit d n (P + 1)) (place d n (P + 1))) = _
      rw [d1, i1, zero_succ d n hd]
    · show addc n (digit d n P) 0 (rot d n (digit d n P) (place d n P)) = _
      rw [d0, i2, fin_succ d n hd]

theorem steps (d : Nat) (hd : d = 2 ∨ d = 3 ∨ d = 4) (n : Nat) : ∀ P, (P + 1) % 2 ^ (d * n) ≠ 0 → way (place d n (P + 1)) (place d n P) = 1 := by
  induction n with
  | zero => intro P hP; simp [Nat.mod_one] at hP
  | succ n ih =>
    intro P hP
    have hD : 0 < 2 ^ d := Nat.two_pow_pos d
    have e : 2 ^ (d * (n + 1)) = 2 ^ (d * n) * 2 ^ d := by rw [Nat.mul_succ, Nat.pow_add]
    show way (addc n (digit d n (P + 1)) 0 (rot d n (digit d n (P + 1)) (place d n (P + 1)))) (addc n (digit d n P) 0 (rot d n (digit d n P) (place d n P))) = 1
    by_cases h0 : (P + 1) % 2 ^ (d * n) = 0
    · obtain ⟨i1, i2⟩ := ends d hd n P h0
      have hq : (P + 1) / 2 ^ (d * n) = P / 2 ^ (d * n) + 1 := Nat.succ_div_of_mod_eq_zero h0
      have h1 : (P / 2 ^ (d * n) + 1) % 2 ^ d ≠ 0 := by
        intro h1
        apply hP
        rw [e, Nat.mod_mul, h0, hq, h1]
        simp
      have hlt := Nat.mod_lt (P / 2 ^ (d * n)) hD
      have h4 : (P / 2 ^ (d * n) % 2 ^ d + 1) % 2 ^ d ≠ 0 := by rw [Nat.mod_add_mod]; exact h1
      have h5 : P / 2 ^ (d * n) % 2 ^ d + 1 < 2 ^ d := by
        rcases Nat.lt_or_ge (P / 2 ^ (d * n) % 2 ^ d + 1) (2 ^ d) with h5 | h5
        · exact h5
        · have : P / 2 ^ (d * n) % 2 ^ d + 1 = 2 ^ d := by omega
          rw [this] at h4
          simp at h4
      have d1 : digit d n (P + 1) = digit d n P + 1 := by
        unfold digit
        rw [hq, ← Nat.mod_add_mod, Nat.mod_eq_of_lt h5]
      rw [d1, i1, i2]
      exact cross d n (digit d n P) hd h5
    · have hq : (P + 1) / 2 ^ (d * n) = P / 2 ^ (d * n) := Nat.succ_div_of_mod_ne_zero h0
      have d1 : digit d n (P + 1) = digit d n P := by unfold digit; rw [hq]
      rw [d1, way_addc, way_rot d n _ _ _ hd (digit_lt d n P) (place_len _ _ _) (place_len _ _ _)]
      exact ih P h0
end Hil
