/- Whole numbers as float numbers: what is equal to itself without its broken part. Conditions: none. -/
import Derived.Test.YtmeooadgdagiiaaNum
namespace Lox
open Go
set_option linter.unusedVariables false

/-- The word x stands for a whole number within 2^20. -/
def Wh (x : Nat) (n : Int) : Prop := Gd 0 x n ∧ n.natAbs ≤ 1048576

theorem gd0_of_is {x : Nat} {n : Int} (h : Is x (n : Rat)) : Gd 0 x n := by
  have := Gd.of_int h 0
  rw [Int.pow_zero, Int.mul_one] at this
  exact this

theorem two20 : FloatKind.f64.nearest 1048576 = 4697254411347427328 := by decide +kernel
theorem two20n : FloatKind.f64.nearest (-1048576) = Op.negFloat .f64 4697254411347427328 := by decide +kernel
theorem is_two20 : Is 4697254411347427328 ((1048576 : Int) : Rat) := by rw [← two20]; exact nearest_is _ (by decide)
theorem is_two20n : Is (Op.negFloat .f64 4697254411347427328) ((-1048576 : Int) : Rat) := by rw [← two20n]; exact nearest_is _ (by decide)
theorem zero0 : FloatKind.f64.nearest 0 = 0 := by decide +kernel
theorem is_zero : Is 0 ((0 : Int) : Rat) := by rw [← zero0]; exact nearest_is _ (by decide)

theorem cut_zero (neg : Bool) (n drop : Nat) : Ieee.Toward.zero.cut neg n drop = n / 2 ^ drop := by
  unfold Ieee.Toward.cut
  simp only [Nat.one_shiftLeft, Bool.toNat_false, Nat.add_zero]
  rcases Nat.le_total drop (n.log2 + 2) with h | h
  · rw [Nat.min_eq_left h]
  · rw [Nat.min_eq_right h]
    have h1 : n < 2 ^ (n.log2 + 2) := by
      have := Nat.lt_log2_self (n := n)
      have h2 : 2 ^ (n.log2 + 1) ≤ 2 ^ (n.log2 + 2) := Nat.pow_le_pow_right (by decide) (by omega)
      omega
    have h2 : 2 ^ (n.log2 + 2) ≤ 2 ^ drop := Nat.pow_le_pow_right (by decide) h
    rw [Nat.div_eq_of_lt h1, Nat.div_eq_of_lt (by omega)]

theorem trunc_le (m : Nat) (i : Int) : (((m <<< i.toNat) / 2 ^ (-i).toNat : Nat) : Rat) ≤ (m : Rat) * p2 i := by
  rcases Int.le_total 0 i with h | h
  · have e : (-i).toNat = 0 := by omega
    rw [e, Nat.pow_zero, Nat.div_one, Nat.shiftLeft_eq, Rat.natCast_mul, p2_toNat h]
    exact Rat.le_refl
  · have e : i.toNat = 0 := by omega
    rw [e, Nat.shiftLeft_zero]
    have h1 : m / 2 ^ (-i).toNat * 2 ^ (-i).toNat ≤ m := Nat.div_mul_le_self _ _
    have h2 : ((m / 2 ^ (-i).toNat : Nat) : Rat) * ((2 ^ (-i).toNat : Nat) : Rat) ≤ (m : Rat) := by
      rw [← Rat.natCast_mul]; exact Rat.natCast_le_natCast.2 h1
    rw [← p2_toNat (i := -i) (by omega)] at h2
    have h3 := Rat.mul_le_mul_of_nonneg_right h2 (Rat.le_of_lt (p2_pos i))
    have h4 : p2 (-i) * p2 i = 1 := by rw [← p2_add, ← p2_zero]; congr 1; omega
    rw [Rat.mul_assoc, h4, Rat.mul_one] at h3
    exact h3

theorem trunc_wh {x : Nat} (hx : Fw x) (hb : (vl x).abs ≤ ((1048576 : Nat) : Rat)) (he : FloatKind.f64.format.order x (FloatKind.f64.encode ((FloatKind.f64.decode x).integral .zero)) = some .eq) : ∃ n, Wh x n := by
  obtain ⟨s, m, i, hd⟩ := hx
  have hx : Fw x := ⟨s, m, i, hd⟩
  have hvx : (vl x).abs = (m : Rat) * p2 i := by unfold vl; rw [hd, dv_abs]
  obtain ⟨K, hK⟩ : ∃ K, K = (m <<< i.toNat) / 2 ^ (-i).toNat := ⟨_, rfl⟩
  have hKm : (K : Rat) ≤ ((1048576 : Nat) : Rat) := by
    rw [hK]
    have := trunc_le m i
    rw [hvx] at hb
    exact Rat.le_trans this hb
  have hK2 : K ≤ 1048576 := Rat.natCast_le_natCast.1 hKm
  have hint : (FloatKind.f64.decode x).integral .zero = .number s K 0 := by
    rw [hd]
    unfold Ieee.Datum.integral
    dsimp only
    rw [cut_zero, hK]
  rw [hint] at he
  obtain ⟨n, hn⟩ : ∃ n : Int, n = if s then -(K : Int) else (K : Int) := ⟨_, rfl⟩
  have hnb : n.natAbs = K := by rw [hn]; cases s <;> simp
  have ha : (n : Rat) = dv (.number s K 0) := by
    unfold dv sg
    dsimp only
    rw [p2_zero, Rat.mul_one, hn]
    cases s
    · simp [Rat.one_mul]; rfl
    · simp [Rat.intCast_neg, Rat.neg_mul, Rat.one_mul]; rfl
  have hlt : (n : Rat).abs < p2 1000 := by
    have h1 := int_lt_p2 n 53 (by have : (2 ^ 53 : Nat) = 9007199254740992 := by decide
                                  omega)
    exact rlt_le h1 (p2_le (by omega))
  obtain ⟨h1, -, h3⟩ := write_ok s K 0 _ ha hlt
  have hy : Fw (Ieee.double.write (.number s K 0)) := h1
  have hv := h3 (rep_whole n (by omega))
  have he2 := or_eq hx hy
  have he3 : FloatKind.f64.format.order x (Ieee.double.write (.number s K 0)) = some .eq := he
  rw [he3] at he2
  have he4 : vl x = vl (Ieee.double.write (.number s K 0)) := of_decide_eq_true he2.symm
  rw [hv] at he4
  exact ⟨n, gd0_of_is ⟨hx, he4⟩, by omega⟩

theorem order_num_fw {x y : Nat} {o : Ordering} (hy : Fw y) (h : FloatKind.f64.format.order x y = some o) (hinf : FloatKind.f64.decode x ≠ .infinity false ∧ FloatKind.f64.decode x ≠ .infinity true) : Fw x := by
  have hn := Num.of_order h
  unfold Num at hn
  unfold Fw Fnt
  cases hd : FloatKind.f64.decode x with
  | number s m i => exact ⟨s, m, i, rfl⟩
  | infinity s => cases s; exact absurd hd hinf.1; exact absurd hd hinf.2
  | nan s t => rw [hd] at hn; simp [Ieee.Datum.isNaN] at hn

/-- The look at a number that the laws take: within 2^20 both ways, and equal to itself without its broken part. -/
theorem whole_of_look {x : Nat} (h1 : (FloatKind.f64.format.order x (Op.negFloat .f64 4697254411347427328) == some .gt || FloatKind.f64.format.order x (Op.negFloat .f64 4697254411347427328) == some .eq) = true)
    (h2 : (FloatKind.f64.format.order x 4697254411347427328 == some .lt || FloatKind.f64.format.order x 4697254411347427328 == some .eq) = true)
    (h3 : FloatKind.f64.format.order x (FloatKind.f64.encode ((FloatKind.f64.decode x).integral .zero)) = some .eq) : ∃ n, Wh x n := by
  have hinf : FloatKind.f64.decode x ≠ .infinity false ∧ FloatKind.f64.decode x ≠ .infinity true := by
    constructor
    · intro hd
      have e : FloatKind.f64.format.order x 4697254411347427328 = some .gt := by
        show (FloatKind.f64.decode x).order (FloatKind.f64.decode 4697254411347427328) = _
        obtain ⟨s, m, i, hc⟩ := is_two20.1
        rw [hd, hc]; rfl
      rw [e] at h2
      revert h2; decide
    · intro hd
      have e : FloatKind.f64.format.order x (Op.negFloat .f64 4697254411347427328) = some .lt := by
        show (FloatKind.f64.decode x).order (FloatKind.f64.decode (Op.negFloat .f64 4697254411347427328)) = _
        obtain ⟨s, m, i, hc⟩ := is_two20n.1
        rw [hd, hc]; rfl
      rw [e] at h1
      revert h1; decide
  have hx : Fw x := by
    cases ho : FloatKind.f64.format.order x 4697254411347427328 with
    | none => rw [ho] at h2; exact absurd h2 (by decide)
    | some o => exact order_num_fw is_two20.1 ho hinf
  rw [or_ge hx is_two20n.1, is_two20n.2] at h1
  rw [or_le hx is_two20.1, is_two20.2] at h2
  have h1 := of_decide_eq_true h1
  have h2 := of_decide_eq_true h2
  refine trunc_wh hx ?_ h3
  rw [abs_le_iff]
  have e1 : ((1048576 : Int) : Rat) = ((1048576 : Nat) : Rat) := rfl
  have e2 : ((-1048576 : Int) : Rat) = -((1048576 : Nat) : Rat) := by rw [← e1, ← Rat.intCast_neg]
  rw [e2] at h1
  rw [e1] at h2
  exact ⟨h1, h2⟩
end Lox
