/- The plain law: the plane's Hilbert curve from its end is the curve with the second coordinate the other way about. Conditions: positions on the curve. -/
import Derived.Test.YtidbohofjljkcaaDoorHilLaw
namespace Hil

def mir (n : Nat) (p : List Int) : List Int := [p.getD 0 0, 2 ^ n - 1 - p.getD 1 0]

theorem mir_step (n e : Nat) (a b : Int) (h : e < 4) : addc n (3 - e) 0 (rot2 n (3 - e) (mir n [a, b])) = mir (n + 1) (addc n e 0 (rot2 n e [a, b])) := by
  have := pow_succ' n
  rcases two_cases e h with rfl | rfl | rfl | rfl <;> simp [rot2, swp, flp, addc, gb, mir, inv] <;> omega

theorem mirror (n : Nat) : ∀ P Q, P % 4 ^ n + Q % 4 ^ n = 4 ^ n - 1 → place 2 n Q = mir n (place 2 n P) := by
  induction n with
  | zero => intro P Q _; rfl
  | succ n ih =>
    intro P Q h
    have hM : 0 < 4 ^ n := Nat.pow_pos (by omega)
    rw [Nat.pow_succ, Nat.mod_mul, Nat.mod_mul] at h
    have hp := Nat.mod_lt P hM
    have hq := Nat.mod_lt Q hM
    have hd := Nat.mod_lt (P / 4 ^ n) (show 0 < 4 by omega)
    have he := Nat.mod_lt (Q / 4 ^ n) (show 0 < 4 by omega)
    have e4 : ∀ X, digit 2 n X = X / 4 ^ n % 4 := fun X => by unfold digit; rw [Nat.pow_mul]
    have key : P % 4 ^ n + Q % 4 ^ n = 4 ^ n - 1 ∧ Q / 4 ^ n % 4 = 3 - P / 4 ^ n % 4 := by
      generalize 4 ^ n = M at *
      generalize P / M % 4 = d at *
      generalize Q / M % 4 = e at *
      generalize P % M = p at *
      generalize Q % M = q at *
      rcases two_cases d hd with rfl | rfl | rfl | rfl <;> rcases two_cases e he with rfl | rfl | rfl | rfl <;> omega
    show addc n (digit 2 n Q) 0 (rot2 n (digit 2 n Q) (place 2 n Q)) = mir (n + 1) (addc n (digit 2 n P) 0 (rot2 n (digit 2 n P) (place 2 n P)))
    rw [ih P Q key.1, e4, e4, key.2]
    obtain ⟨a, b, hab⟩ := list2 (place_len 2 n P)
    rw [hab]
    exact mir_step n _ a b hd
end Hil
