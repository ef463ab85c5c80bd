/- The plain law: different positions have different places; the first place and the last one. Conditions: 2, 3 or 4 dimensions; positions on the curve. -/
import Derived.Test.YtidbohofjljkcaaDoorHilLaw
namespace Hil

theorem inv_inj (n : Nat) (x y : Int) : inv n x = inv n y ↔ x = y := by unfold inv; omega

theorem rot_inj (d n e : Nat) (hd : d = 2 ∨ d = 3 ∨ d = 4) (he : e < 2 ^ d) (p q : List Int) (hp : p.length = d) (hq : q.length = d) (h : rot d n e p = rot d n e q) : p = q := by
  rcases hd with rfl | rfl | rfl
  · obtain ⟨a, b, rfl⟩ := list2 hp
    obtain ⟨x, y, rfl⟩ := list2 hq
    rcases two_cases e he with rfl | rfl | rfl | rfl <;> simp [rot, rot2, swp, flp, inv_inj] at h ⊢ <;> simp [h]
  · obtain ⟨a, b, c, rfl⟩ := list3 hp
    obtain ⟨x, y, z, rfl⟩ := list3 hq
    rcases three_cases e he with rfl | rfl | rfl | rfl | rfl | rfl | rfl | rfl <;> simp [rot, rot3, swp, flp, ivt, inv_inj] at h ⊢ <;> simp [h]
  · obtain ⟨a, b, c, d, rfl⟩ := list4 hp
    obtain ⟨x, y, z, t, rfl⟩ := list4 hq
    rcases four_cases e he with rfl | rfl | rfl | rfl | rfl | rfl | rfl | rfl | rfl | rfl | rfl | rfl | rfl | rfl | rfl | rfl <;> simp [rot, rot4, swp, flp, ivt, inv_inj] at h ⊢ <;> simp [h]

theorem gray_inj (d : Nat) (hd : d = 2 ∨ d = 3 ∨ d = 4) (e f : Nat) (he : e < 2 ^ d) (hf : f < 2 ^ d) (h : ∀ k, k < d → gb e k = gb f k) : e = f := by
  rcases hd with rfl | rfl | rfl
  · have h0 := h 0 (by omega)
    have h1 := h 1 (by omega)
    rcases two_cases e he with rfl | rfl | rfl | rfl <;> rcases two_cases f hf with rfl | rfl | rfl | rfl <;> first | rfl | (revert h0 h1; decide)
  · have h0 := h 0 (by omega)
    have h1 := h 1 (by omega)
    have h2 := h 2 (by omega)
    rcases three_cases e he with rfl | rfl | rfl | rfl | rfl | rfl | rfl | rfl <;> rcases three_cases f hf with rfl | rfl | rfl | rfl | rfl | rfl | rfl | rfl <;> first | rfl | (revert h0 h1 h2; decide)
  · have h0 := h 0 (by omega)
    have h1 := h 1 (by omega)
    have h2 := h 2 (by omega)
    have h3 := h 3 (by omega)
    have key : ∀ e f : Fin 16, gb e.1 0 = gb f.1 0 → gb e.1 1 = gb f.1 1 → gb e.1 2 = gb f.1 2 → gb e.1 3 = gb f.1 3 → e = f := by decide
    have := key ⟨e, he⟩ ⟨f, hf⟩ h0 h1 h2 h3
    simpa using this

theorem addc_inj (n e f : Nat) : ∀ (p q : List Int) (j : Nat), p.length = q.length → Ins n p → Ins n q → addc n e j p = addc n f j q → p = q ∧ ∀ k, j ≤ k → k < j + p.length → gb e k = gb f k := by
  intro p
  induction p with
  | nil =>
    intro q j hl _ _ _
    cases q with
    | nil => exact ⟨rfl, fun k h1 h2 => by simp at h2; omega⟩
    | cons y ys => simp at hl
  | cons x xs ih =>
    intro q j hl hp hq h
    cases q with
    | nil => simp at hl
    | cons y ys =>
      simp only [addc, List.cons.injEq] at h
      obtain ⟨h1, h2⟩ := h
      obtain ⟨r1, r2⟩ := ih ys (j + 1) (by simpa using hl) (fun z hz => hp z (by simp [hz])) (fun z hz => hq z (by simp [hz])) h2
      have hx := hp x (by simp)
      have hy := hq y (by simp)
      have g1 := gb_lt e j
      have g2 := gb_lt f j
      have c1 : gb e j = 0 ∨ gb e j = 1 := by omega
      have c2 : gb f j = 0 ∨ gb f j = 1 := by omega
      have hxy : x = y ∧ gb e j = gb f j := by
        rcases c1 with c1 | c1 <;> rcases c2 with c2 | c2 <;> rw [c1, c2] at h1 ⊢ <;> simp at h1 ⊢ <;> omega
      refine ⟨by rw [hxy.1, r1], fun k k1 k2 => ?_⟩
      rcases Nat.eq_or_lt_of_le k1 with rfl | k3
      · exact hxy.2
      · exact r2 k (by omega) (by simp at k2; omega)

theorem place_inj (d : Nat) (hd : d = 2 ∨ d = 3 ∨ d = 4) (n : Nat) : ∀ P Q, place d n P = place d n Q → P % 2 ^ (d * n) = Q % 2 ^ (d * n) := by
  induction n with
  | zero => intro P Q _; simp [Nat.mod_one]
  | succ n ih =>
    intro P Q h
    have hl : ∀ X, (rot d n (digit d n X) (place d n X)).length = d := fun X => by rw [rot_len, place_len]
    have hi : ∀ X, Ins n (rot d n (digit d n X) (place d n X)) := fun X => rot_ins (place_len d n X) (place_ins d n X)
    obtain ⟨h1, h2⟩ := addc_inj n (digit d n P) (digit d n Q) _ _ 0 (by rw [hl, hl]) (hi P) (hi Q) h
    have hg : digit d n P = digit d n Q := gray_inj d hd _ _ (digit_lt _ _ _) (digit_lt _ _ _) (fun k hk => h2 k (by omega) (by rw [hl]; omega))
    rw [hg] at h1
    have h3 := ih P Q (rot_inj d n _ hd (digit_lt _ _ _) _ _ (place_len _ _ _) (place_len _ _ _) h1)
    have e : 2 ^ (d * (n + 1)) = 2 ^ (d * n) * 2 ^ d := by rw [Nat.mul_succ, Nat.pow_add]
    rw [e, Nat.mod_mul, Nat.mod_mul, h3]
    unfold digit at hg
    rw [hg]

theorem place_zero (d : Nat) (hd : d = 2 ∨ d = 3 ∨ d = 4) (n : Nat) : place d n 0 = List.replicate d 0 := by
  induction n with
  | zero => rfl
  | succ n ih =>
    show addc n (digit d n 0) 0 (rot d n (digit d n 0) (place d n 0)) = _
    rw [ih, show digit d n 0 = 0 from by simp [digit], zero_succ d n hd]

theorem place_last (d : Nat) (hd : d = 2 ∨ d = 3 ∨ d = 4) (n : Nat) : place d n (2 ^ (d * n) - 1) = fin d n := by
  have hp := Nat.two_pow_pos (d * n)
  exact (ends d hd n (2 ^ (d * n) - 1) (by rw [Nat.sub_add_cancel hp]; simp)).2
end Hil
