/- Steps of a proof, one behind another: Float numbers as rational numbers: what an operation gives, how near it is, and where it is exact. Conditions: as each theorem says. -/
import Derived.Test.YtpamoleocjdjiaaDoorMv1
import Derived.Laws.FloatArith

namespace Lox
open Go
set_option linter.unusedVariables false

/-- A power of two, as a rational number. -/
def p2 (i : Int) : Rat := (2 : Rat) ^ i

theorem rlt_le {a b c : Rat} (h : a < b) (k : b ≤ c) : a < c := by grind
theorem rle_lt {a b c : Rat} (h : a ≤ b) (k : b < c) : a < c := by grind
theorem p2_pos (i : Int) : 0 < p2 i := Rat.zpow_pos (by decide)
theorem p2_add (i j : Int) : p2 (i + j) = p2 i * p2 j := Rat.zpow_add (by decide) i j
theorem p2_zero : p2 0 = 1 := Rat.zpow_zero 2
theorem p2_one : p2 1 = 2 := Rat.zpow_one 2
theorem p2_nat (n : Nat) : p2 (n : Int) = ((2 ^ n : Nat) : Rat) := by
  unfold p2
  rw [Rat.zpow_natCast, Rat.natCast_pow]
  rfl
theorem p2_succ (i : Int) : p2 (i + 1) = 2 * p2 i := by rw [p2_add, p2_one, Rat.mul_comm]
theorem p2_toNat {i : Int} (h : 0 ≤ i) : p2 i = ((2 ^ i.toNat : Nat) : Rat) := by
  rw [← p2_nat]
  congr 1
  omega
theorem p2_sub (i j : Int) : p2 (i - j) * p2 j = p2 i := by rw [← p2_add]; congr 1; omega
theorem p2_le {i j : Int} (h : i ≤ j) : p2 i ≤ p2 j := by
  have e := p2_sub j i
  rw [p2_toNat (by omega)] at e
  have h1 : (1 : Rat) ≤ ((2 ^ (j - i).toNat : Nat) : Rat) := by
    have := Nat.one_le_two_pow (n := (j - i).toNat)
    exact_mod_cast this
  have := Rat.mul_le_mul_of_nonneg_right h1 (Rat.le_of_lt (p2_pos i))
  grind
theorem p2_lt_of {i j : Int} (h : p2 i < p2 j) : i < j := by
  rcases Int.lt_or_le i j with h1 | h1
  · exact h1
  · have := p2_le h1
    grind

/-- The sign's factor. -/
def sg (s : Bool) : Rat := if s then -1 else 1
theorem sg_abs (s : Bool) (x : Rat) : (sg s * x).abs = x.abs := by
  cases s
  · simp [sg]
  · have : sg true * x = -x := by simp [sg]; grind
    rw [this, Rat.abs_neg]
theorem sg_xor (s t : Bool) : sg (s ^^ t) = sg s * sg t := by cases s <;> cases t <;> simp [sg] <;> grind
theorem sg_not (s : Bool) : sg (!s) = - sg s := by cases s <;> simp [sg]

/-- The number that a datum stands for (0 of what is none). -/
def dv : Ieee.Datum → Rat
  | .number s m i => sg s * ((m : Rat) * p2 i)
  | _ => 0

/-- Is it a number? -/
def Fnt (d : Ieee.Datum) : Prop := ∃ s m i, d = .number s m i

/-- The value of a word. -/
def vl (x : Nat) : Rat := dv (FloatKind.f64.decode x)

theorem abs_le_iff {x c : Rat} : x.abs ≤ c ↔ -c ≤ x ∧ x ≤ c := by
  by_cases h : 0 ≤ x
  · rw [Rat.abs_of_nonneg h]; grind
  · rw [Rat.abs_of_nonpos (by grind)]; grind

/-- What is cut off is at most half a unit. -/
theorem cut_near (neg : Bool) (n drop : Nat) : (2 * (Ieee.Toward.even.cut neg n drop : Int) - 1) * 2 ^ drop ≤ 2 * n ∧ 2 * (n : Int) ≤ (2 * (Ieee.Toward.even.cut neg n drop : Int) + 1) * 2 ^ drop := by
  unfold Ieee.Toward.cut
  by_cases h : drop ≤ n.log2 + 2
  · have e : min drop (n.log2 + 2) = drop := by omega
    simp only [e, Nat.one_shiftLeft]
    obtain ⟨g, hg⟩ : ∃ g : Nat, g = 2 ^ drop := ⟨_, rfl⟩
    have hgp : 0 < g := by rw [hg]; exact Nat.two_pow_pos _
    have hgi : (2 : Int) ^ drop = (g : Int) := by rw [hg]; simp
    rw [← hg, hgi]
    have hd := Nat.div_add_mod n g
    have hm := Nat.mod_lt n hgp
    generalize n / g = q at hd ⊢
    generalize n % g = r at hd hm ⊢
    have hn : (n : Int) = g * q + r := by exact_mod_cast hd.symm
    obtain ⟨b, hb⟩ : ∃ b : Bool, b = (decide (g < 2 * r) || (g == 2 * r && q % 2 == 1)) := ⟨_, rfl⟩
    rw [← hb]
    cases b with
    | false =>
      have h1 : ¬ g < 2 * r := fun h => by simp [h] at hb
      rw [hn]
      simp only [Bool.toNat_false, Nat.add_zero]
      have h1' : 2 * (r : Int) ≤ g := by omega
      constructor <;> grind
    | true =>
      have h1 : g ≤ 2 * r := by
        rcases Nat.lt_or_ge g (2 * r) with h | h
        · omega
        · simp at hb; omega
      rw [hn]
      have h1' : (g : Int) ≤ 2 * r := by omega
      have h2' : (r : Int) < g := by omega
      simp only [Bool.toNat_true, Int.natCast_add]
      constructor <;> grind
  · have e : min drop (n.log2 + 2) = n.log2 + 2 := by omega
    simp only [e, Nat.one_shiftLeft]
    have hlt : n < 2 ^ (n.log2 + 1) := Nat.lt_log2_self
    have e2 : 2 ^ (n.log2 + 2) = 2 * 2 ^ (n.log2 + 1) := by rw [Nat.pow_succ]; omega
    have e3 : 2 ^ (n.log2 + 2) ≤ 2 ^ drop := Nat.pow_le_pow_right (by omega) (by omega)
    have hd0 : n / 2 ^ (n.log2 + 2) = 0 := Nat.div_eq_of_lt (by omega)
    have hm0 : n % 2 ^ (n.log2 + 2) = n := Nat.mod_eq_of_lt (by omega)
    rw [hd0, hm0]
    have hc : (decide (2 ^ (n.log2 + 2) < 2 * n) || (2 ^ (n.log2 + 2) == 2 * n && 0 % 2 == 1)) = false := by
      simp
      omega
    rw [hc]
    have e4 : ((2 : Int) ^ drop) = ((2 ^ drop : Nat) : Int) := by simp
    rw [e4]
    simp only [Bool.toNat_false]
    omega

theorem double_eqs : Ieee.double.leastPlace = -1074 ∧ Ieee.double.binade = 4503599627370496 ∧ Ieee.double.infRung = 9218868437227405312 ∧ Ieee.double.signWeight = 9223372036854775808 ∧ Ieee.double.fractionBits = 52 := by
  refine ⟨by decide, by decide, by decide, by decide, rfl⟩

theorem word_parts (neg : Bool) {R : Nat} (h : R < 9223372036854775808) : (Ieee.double.word neg R / 9223372036854775808 % 2 == 1) = neg ∧ Ieee.double.word neg R % 9223372036854775808 = R := by
  unfold Ieee.Format.word
  rw [double_eqs.2.2.2.1]
  cases neg
  · simp only [Bool.false_eq_true, if_false]
    refine ⟨?_, by omega⟩
    rw [Nat.div_eq_of_lt h]; rfl
  · simp only [if_true]
    refine ⟨?_, by omega⟩
    have : (9223372036854775808 + R) / 9223372036854775808 = 1 := by omega
    rw [this]; rfl

/-- A word that is made of a rung is read back. -/
theorem read_rung (neg : Bool) (L K : Nat) (hL : L ≤ 2040) (hK : K ≤ 9007199254740992) (h0 : 0 < L → 4503599627370496 ≤ K) :
    ∃ m i, Ieee.double.read (Ieee.double.word neg (L * 4503599627370496 + K)) = .number neg m i ∧ (m : Rat) * p2 i = (K : Rat) * p2 ((L : Int) - 1074) ∧ m ≤ 9007199254740992 ∧ -1074 ≤ i := by
  obtain ⟨e1, e2, e3, e4, e5⟩ := double_eqs
  obtain ⟨p1, p2'⟩ := word_parts neg (R := L * 4503599627370496 + K) (by omega)
  unfold Ieee.Format.read
  simp only [e1, e2, e3, e4, p1, p2']
  by_cases hb : L * 4503599627370496 + K < 4503599627370496
  · have hL0 : L = 0 := by omega
    subst hL0
    rw [if_pos hb]
    refine ⟨_, _, rfl, ?_, by omega, by omega⟩
    simp
  · rw [if_neg hb, if_pos (by omega)]
    by_cases hK2 : K = 9007199254740992
    · subst hK2
      refine ⟨_, _, rfl, ?_, by omega, by omega⟩
      have a1 : (L * 4503599627370496 + 9007199254740992) % 4503599627370496 = 0 := by omega
      have a2 : (L * 4503599627370496 + 9007199254740992) / 4503599627370496 - 1 = L + 1 := by omega
      rw [a1, a2]
      have a3 : (-1074 + ((L + 1 : Nat) : Int)) = ((L : Int) - 1074) + 1 := by omega
      rw [a3, p2_succ]
      simp only [Nat.add_zero]
      have : ((9007199254740992 : Nat) : Rat) = 2 * ((4503599627370496 : Nat) : Rat) := by decide +kernel
      rw [this]
      generalize ((4503599627370496 : Nat) : Rat) = c
      grind
    · have hK3 : 4503599627370496 ≤ K := by
        rcases Nat.eq_zero_or_pos L with h | h
        · subst h; omega
        · exact h0 h
      refine ⟨_, _, rfl, ?_, by omega, by omega⟩
      have a1 : 4503599627370496 + (L * 4503599627370496 + K) % 4503599627370496 = K := by omega
      have a2 : (L * 4503599627370496 + K) / 4503599627370496 - 1 = L := by omega
      rw [a1, a2]
      congr 2

/-- What the nearest word of a number stands for: a number within half a unit of its last digit. -/
theorem nearest_near (neg : Bool) (mag : Nat) (place : Int) (hlt : (mag : Rat) * p2 place < p2 1000) :
    ∃ m i, Ieee.double.read (Ieee.double.nearest neg mag place) = .number neg m i ∧ -1074 ≤ i ∧
      ((mag : Rat) = 0 → (m : Rat) = 0) ∧
      (mag ≠ 0 → ∃ (K : Nat) (last : Int), (m : Rat) * p2 i = (K : Rat) * p2 last ∧ -1074 ≤ last ∧ (2 * (K : Rat) - 1) * p2 last ≤ 2 * ((mag : Rat) * p2 place) ∧ 2 * ((mag : Rat) * p2 place) ≤ (2 * (K : Rat) + 1) * p2 last ∧
        (last = -1074 ∨ p2 (last + 52) ≤ (mag : Rat) * p2 place) ∧ (∀ P : Int, -1074 ≤ P → (mag : Rat) * p2 place < p2 (P + 53) → last ≤ P)) := by
  unfold Ieee.Format.nearest
  by_cases h0 : mag = 0
  · subst h0
    rw [if_pos rfl]
    obtain ⟨m, i, e, h1, h2, h3⟩ := read_rung neg 0 0 (by omega) (by omega) (by omega)
    refine ⟨m, i, by simpa using e, h3, fun _ => ?_, fun h => absurd rfl h⟩
    have hp := p2_pos i
    have h1' : (m : Rat) * p2 i = 0 := by rw [h1]; simp
    rcases Rat.mul_eq_zero.1 h1' with h | h
    · exact h
    · grind
  · rw [if_neg h0]
    obtain ⟨e1, e2, e3, e4, e5⟩ := double_eqs
    rw [e1, e2, e3, e5]
    obtain ⟨last, hlast⟩ : ∃ last : Int, last = max (place + (mag.log2 : Int) - ((52 : Nat) : Int)) (-1074) := ⟨_, rfl⟩
    rw [← hlast]
    dsimp only
    obtain ⟨K, hK⟩ : ∃ K, K = Ieee.Toward.even.cut neg (mag <<< (place - last).toNat) (last - place).toNat := ⟨_, rfl⟩
    rw [← hK]
    have hcut := cut_near neg (mag <<< (place - last).toNat) (last - place).toNat
    rw [← hK] at hcut
    have hV1 : p2 ((mag.log2 : Int) + place) ≤ (mag : Rat) * p2 place := by
      rw [p2_add, p2_nat]
      refine Rat.mul_le_mul_of_nonneg_right ?_ (Rat.le_of_lt (p2_pos _))
      exact_mod_cast Nat.log2_self_le h0
    have hV2 : (mag : Rat) * p2 place < p2 ((mag.log2 : Int) + place + 1) := by
      have : (mag.log2 : Int) + place + 1 = ((mag.log2 + 1 : Nat) : Int) + place := by omega
      rw [this, p2_add, p2_nat]
      refine Rat.mul_lt_mul_of_pos_right ?_ (p2_pos _)
      exact_mod_cast Nat.lt_log2_self
    have hn : ((mag <<< (place - last).toNat : Nat) : Rat) * p2 last = (mag : Rat) * p2 place * ((2 ^ (last - place).toNat : Nat) : Rat) := by
      rw [Nat.shiftLeft_eq, Rat.natCast_mul]
      by_cases hpl : last ≤ place
      · have z : (last - place).toNat = 0 := by omega
        have := p2_sub place last
        rw [p2_toNat (by omega)] at this
        rw [z, ← this]
        simp
        grind
      · have z : (place - last).toNat = 0 := by omega
        have := p2_sub last place
        rw [p2_toNat (by omega)] at this
        rw [z, ← this]
        simp
        grind
    obtain ⟨D, hD⟩ : ∃ D : Rat, D = ((2 ^ (last - place).toNat : Nat) : Rat) := ⟨_, rfl⟩
    have hDp : 0 < D := by rw [hD]; exact_mod_cast Nat.two_pow_pos _
    obtain ⟨V, hV⟩ : ∃ V : Rat, V = (mag : Rat) * p2 place := ⟨_, rfl⟩
    obtain ⟨N, hN⟩ : ∃ N : Rat, N = ((mag <<< (place - last).toNat : Nat) : Rat) := ⟨_, rfl⟩
    have hD2 : (((2 : Int) ^ (last - place).toNat : Int) : Rat) = D := by rw [hD]; rw [Rat.natCast_pow, Rat.intCast_pow]; rfl
    have c1 : (2 * (K : Rat) - 1) * D ≤ 2 * N := by
      have := hcut.1
      have h2 : (((2 * (K : Int) - 1) * 2 ^ (last - place).toNat : Int) : Rat) ≤ ((2 * ((mag <<< (place - last).toNat : Nat) : Int) : Int) : Rat) := by exact_mod_cast this
      rw [Rat.intCast_mul, hD2, Rat.intCast_sub, Rat.intCast_mul, Rat.intCast_mul] at h2
      rw [hN]
      exact h2
    have c2 : 2 * N ≤ (2 * (K : Rat) + 1) * D := by
      have := hcut.2
      have h2 : ((2 * ((mag <<< (place - last).toNat : Nat) : Int) : Int) : Rat) ≤ (((2 * (K : Int) + 1) * 2 ^ (last - place).toNat : Int) : Rat) := by exact_mod_cast this
      rw [Rat.intCast_mul, Rat.intCast_mul, hD2, Rat.intCast_add, Rat.intCast_mul] at h2
      rw [hN]
      exact h2
    rw [← hV, ← hN, ← hD] at hn
    rw [← hV] at hV1 hV2 hlt ⊢
    have hpl := p2_pos last
    obtain ⟨L, hL⟩ : ∃ L, L = p2 last := ⟨_, rfl⟩
    rw [← hL] at hn hpl
    have d1 : (2 * (K : Rat) - 1) * L ≤ 2 * V := by
      have := Rat.mul_le_mul_of_nonneg_right c1 (Rat.le_of_lt hpl)
      refine Rat.le_of_mul_le_mul_right (c := D) ?_ hDp
      grind
    have d2 : 2 * V ≤ (2 * (K : Rat) + 1) * L := by
      have := Rat.mul_le_mul_of_nonneg_right c2 (Rat.le_of_lt hpl)
      refine Rat.le_of_mul_le_mul_right (c := D) ?_ hDp
      grind
    have hup : V < p2 (last + 53) := by
      have : p2 ((mag.log2 : Int) + place + 1) ≤ p2 (last + 53) := p2_le (by omega)
      grind
    have hlo : last = -1074 ∨ p2 (last + 52) ≤ V := by
      by_cases h : last = -1074
      · exact .inl h
      · have : last + 52 = (mag.log2 : Int) + place := by omega
        rw [this]
        exact .inr hV1
    obtain ⟨B, hB⟩ : ∃ B : Nat, B = 2 ^ 52 := ⟨_, rfl⟩
    have hB' : B = 4503599627370496 := hB.trans (by decide)
    have e52 : p2 (last + 52) = (B : Rat) * L := by
      have z : p2 52 = (B : Rat) := by
        have h52 : (52 : Int) = ((52 : Nat) : Int) := rfl
        rw [hB, h52, p2_nat]
      rw [p2_add, z, hL, Rat.mul_comm]
    clear hB
    have e53 : p2 (last + 53) = 2 * ((B : Rat) * L) := by
      have : last + 53 = (last + 52) + 1 := by omega
      rw [this, p2_succ, e52]
    have hKu : K ≤ 2 * B := by
      have : (2 * (K : Rat) - 1) * L < (4 * (B : Rat)) * L := by grind
      have := Rat.lt_of_mul_lt_mul_right this (Rat.le_of_lt hpl)
      have h4 : ((2 * K : Nat) : Rat) < ((4 * B + 1 : Nat) : Rat) := by
        rw [Rat.natCast_mul, Rat.natCast_add, Rat.natCast_mul]
        have a1 : ((2 : Nat) : Rat) = 2 := rfl
        have a2 : ((4 : Nat) : Rat) = 4 := rfl
        have a3 : ((1 : Nat) : Rat) = 1 := rfl
        rw [a1, a2, a3]
        grind
      have := Rat.natCast_lt_natCast.1 h4
      omega
    have hKl : 0 < (last + 1074).toNat → B ≤ K := fun hp => by
      rcases hlo with h | h
      · omega
      · rw [e52] at h
        have : (2 * (B : Rat)) * L ≤ (2 * (K : Rat) + 1) * L := by grind
        have := Rat.le_of_mul_le_mul_right this hpl
        have h4 : ((2 * B : Nat) : Rat) ≤ ((2 * K + 1 : Nat) : Rat) := by
          rw [Rat.natCast_mul, Rat.natCast_add, Rat.natCast_mul]
          have a1 : ((2 : Nat) : Rat) = 2 := rfl
          have a3 : ((1 : Nat) : Rat) = 1 := rfl
          rw [a1, a3]
          exact this
        have := Rat.natCast_le_natCast.1 h4
        omega
    rw [hB'] at hKu hKl
    have hl1000 : last ≤ 948 := by
      have : p2 ((mag.log2 : Int) + place) < p2 1000 := by grind
      have := p2_lt_of this
      omega
    obtain ⟨m, i, r1, r2, r3, r4⟩ := read_rung neg (last + 1074).toNat K (by omega) (by omega) hKl
    have hLL : (last - -1074).toNat = (last + 1074).toNat := by omega
    rw [hLL, Nat.min_eq_left (by omega)]
    have hlc : (((last + 1074).toNat : Nat) : Int) - 1074 = last := by omega
    rw [hlc] at r2
    refine ⟨m, i, r1, r4, fun h => absurd (by exact_mod_cast h) h0, fun _ => ⟨K, last, r2, by omega, by rw [← hL]; exact d1, by rw [← hL]; exact d2, hlo, fun P hP hV' => ?_⟩⟩
    have : p2 ((mag.log2 : Int) + place) < p2 (P + 53) := by grind
    have := p2_lt_of this
    omega

theorem p2_neg53 (i : Int) : 2 * p2 (i - 53) = p2 (i - 52) := by
  have : i - 52 = (i - 53) + 1 := by omega
  rw [this, p2_succ]

/-- A magnitude that a word holds exactly. -/
def Rep (a : Rat) : Prop := ∃ (M : Nat) (P : Int), M < 9007199254740992 ∧ -1074 ≤ P ∧ a.abs = (M : Rat) * p2 P

theorem dv_abs (s : Bool) (m : Nat) (i : Int) : (dv (.number s m i)).abs = (m : Rat) * p2 i := by
  unfold dv
  dsimp only
  rw [sg_abs, Rat.abs_of_nonneg]
  exact Rat.mul_nonneg Rat.natCast_nonneg (Rat.le_of_lt (p2_pos _))

/-- The word that a number is written as: within half a unit of it; it itself where a word holds it. -/
theorem write_ok (s : Bool) (m : Nat) (i : Int) (a : Rat) (ha : a = dv (.number s m i)) (hlt : a.abs < p2 1000) :
    Fnt (FloatKind.f64.decode (Ieee.double.write (.number s m i))) ∧ (vl (Ieee.double.write (.number s m i)) - a).abs ≤ a.abs * p2 (-53) + p2 (-1075) ∧ (Rep a → vl (Ieee.double.write (.number s m i)) = a) := by
  have hab : a.abs = (m : Rat) * p2 i := by rw [ha, dv_abs]
  obtain ⟨m', i', e, hi, hz, hnz⟩ := nearest_near s m i (by rw [← hab]; exact hlt)
  have e' : FloatKind.f64.decode (Ieee.double.write (.number s m i)) = .number s m' i' := e
  have hv : vl (Ieee.double.write (.number s m i)) = sg s * ((m' : Rat) * p2 i') := by unfold vl; rw [e']; rfl
  have had : a = sg s * ((m : Rat) * p2 i) := ha
  refine ⟨⟨s, m', i', e'⟩, ?_⟩
  by_cases h0 : m = 0
  · have hm' : (m' : Rat) = 0 := hz (by rw [h0]; rfl)
    have ha0 : a = 0 := by rw [had, h0]; simp
    have hv0 : vl (Ieee.double.write (.number s m i)) = 0 := by rw [hv, hm']; simp
    rw [hv0, ha0]
    refine ⟨?_, fun _ => rfl⟩
    have := p2_pos (-1075)
    have z : ((0 : Rat) - 0) = 0 := by grind
    rw [z, Rat.abs_zero]
    grind
  · obtain ⟨K, last, k1, k2, k3, k4, k5, k6⟩ := hnz h0
    rw [← hab] at k3 k4 k5 k6
    have hva : vl (Ieee.double.write (.number s m i)) - a = sg s * ((K : Rat) * p2 last - a.abs) := by
      rw [hv, k1]
      have : a = sg s * a.abs := by rw [hab]; exact had
      grind
    have hL : p2 last ≤ a.abs * p2 (-52) + p2 (-1074) := by
      rcases k5 with h | h
      · rw [h]
        have : 0 ≤ a.abs * p2 (-52) := Rat.mul_nonneg Rat.abs_nonneg (Rat.le_of_lt (p2_pos _))
        grind
      · have h1 := Rat.mul_le_mul_of_nonneg_right h (Rat.le_of_lt (p2_pos (-52)))
        have h2 : p2 (last + 52) * p2 (-52) = p2 last := by rw [← p2_add]; congr 1; omega
        have := p2_pos (-1074)
        grind
    have z1 : 2 * p2 (-53) = p2 (-52) := by rw [← p2_succ]; rfl
    have z2 : 2 * p2 (-1075) = p2 (-1074) := by rw [← p2_succ]; rfl
    have z3 : a.abs * p2 (-52) = 2 * (a.abs * p2 (-53)) := by rw [← z1]; grind
    rw [z3, ← z2] at hL
    refine ⟨?_, fun hR => ?_⟩
    · clear k5 k6 hnz hz
      rw [hva, sg_abs, abs_le_iff]
      constructor <;> grind
    · obtain ⟨M, P, hM, hP, hMP⟩ := hR
      have hlP : last ≤ P := k6 P hP (by
        rw [hMP]
        have : P + 53 = ((53 : Nat) : Int) + P := by omega
        rw [this, p2_add, p2_nat]
        refine Rat.mul_lt_mul_of_pos_right ?_ (p2_pos _)
        have h53 : (2 ^ 53 : Nat) = 9007199254740992 := by decide
        rw [h53]
        exact Rat.natCast_lt_natCast.2 hM)
      have hp := p2_sub P last
      rw [p2_toNat (by omega)] at hp
      obtain ⟨D, hD⟩ : ∃ D : Nat, D = 2 ^ (P - last).toNat := ⟨_, rfl⟩
      rw [← hD] at hp
      rw [← hp] at hMP
      have q1 : (2 * (K : Rat) - 1) ≤ 2 * ((M * D : Nat) : Rat) := by
        refine Rat.le_of_mul_le_mul_right (c := p2 last) ?_ (p2_pos _)
        rw [Rat.natCast_mul]
        grind
      have q2 : 2 * ((M * D : Nat) : Rat) ≤ (2 * (K : Rat) + 1) := by
        refine Rat.le_of_mul_le_mul_right (c := p2 last) ?_ (p2_pos _)
        rw [Rat.natCast_mul]
        grind
      have hKM : K = M * D := by
        generalize M * D = N at q1 q2
        have a1 : ((2 : Nat) : Rat) = 2 := rfl
        have a3 : ((1 : Nat) : Rat) = 1 := rfl
        have h1 : ((2 * K : Nat) : Rat) ≤ ((2 * N + 1 : Nat) : Rat) := by
          rw [Rat.natCast_mul, Rat.natCast_add, Rat.natCast_mul, a1, a3]
          grind
        have h2 : ((2 * N : Nat) : Rat) ≤ ((2 * K + 1 : Nat) : Rat) := by
          rw [Rat.natCast_mul, Rat.natCast_add, Rat.natCast_mul, a1, a3]
          grind
        have := Rat.natCast_le_natCast.1 h1
        have := Rat.natCast_le_natCast.1 h2
        omega
      have : vl (Ieee.double.write (.number s m i)) - a = 0 := by
        rw [hva, hMP, hKM, Rat.natCast_mul]
        grind
      grind

theorem signed_rat (s : Bool) (m k : Nat) : ((Ieee.signed s m k : Int) : Rat) = sg s * ((m : Rat) * p2 (k : Int)) := by
  unfold Ieee.signed
  rw [Nat.shiftLeft_eq, p2_nat]
  cases s
  · simp [sg, Rat.natCast_pow]
    first | done | rfl | grind
  · simp only [if_true, Rat.intCast_neg, Rat.intCast_natCast, Rat.natCast_mul, sg]
    grind

theorem sg_natAbs (t : Int) (b : Bool) (hb : t ≠ 0 → b = decide (t < 0)) : sg b * ((t.natAbs : Nat) : Rat) = (t : Rat) := by
  by_cases h0 : t = 0
  · subst h0; simp
  · rw [hb h0]
    by_cases h : t < 0
    · have e : t = -((t.natAbs : Nat) : Int) := by omega
      have e2 : (t : Rat) = -((t.natAbs : Nat) : Rat) := by
        conv => lhs; rw [e]
        rw [Rat.intCast_neg, Rat.intCast_natCast]
      rw [e2]
      simp [h, sg]
      grind
    · have e : t = ((t.natAbs : Nat) : Int) := by omega
      have e2 : (t : Rat) = ((t.natAbs : Nat) : Rat) := by
        conv => lhs; rw [e]
        rw [Rat.intCast_natCast]
      rw [e2]
      simp [h, sg]

theorem dv_sum {d e : Ieee.Datum} (hd : Fnt d) (he : Fnt e) : ∃ s m i, d.sum e = some (.number s m i) ∧ dv (.number s m i) = dv d + dv e := by
  obtain ⟨s, m, i, rfl⟩ := hd
  obtain ⟨t, n, j, rfl⟩ := he
  refine ⟨_, _, _, rfl, ?_⟩
  obtain ⟨b, hb⟩ : ∃ b, b = min i j := ⟨_, rfl⟩
  rw [← hb]
  obtain ⟨T, hT⟩ : ∃ T, T = Ieee.signed s m (i - b).toNat + Ieee.signed t n (j - b).toNat := ⟨_, rfl⟩
  rw [← hT]
  unfold dv
  dsimp only
  have h1 := sg_natAbs T (if T = 0 then s && t else decide (T < 0)) (fun h => by rw [if_neg h])
  have h2 : sg (if T = 0 then s && t else decide (T < 0)) * ((T.natAbs : Rat) * p2 b) = (T : Rat) * p2 b := by grind
  rw [h2, hT, Rat.intCast_add, signed_rat, signed_rat]
  have e1 : (((i - b).toNat : Nat) : Int) = i - b := by omega
  have e2 : (((j - b).toNat : Nat) : Int) = j - b := by omega
  rw [e1, e2]
  have f1 := p2_sub i b
  have f2 := p2_sub j b
  rw [← f1, ← f2]
  grind

theorem dv_opp (d : Ieee.Datum) : dv d.opposite = - dv d := by
  cases d with
  | number s m i => simp only [Ieee.Datum.opposite, dv, sg_not]; grind
  | infinity s => simp [Ieee.Datum.opposite, dv]
  | nan s t => simp [Ieee.Datum.opposite, dv]

theorem fnt_opp {d : Ieee.Datum} (h : Fnt d) : Fnt d.opposite := by
  obtain ⟨s, m, i, rfl⟩ := h
  exact ⟨_, _, _, rfl⟩

theorem dv_product {d e : Ieee.Datum} (hd : Fnt d) (he : Fnt e) : ∃ s m i, d.product e = some (.number s m i) ∧ dv (.number s m i) = dv d * dv e := by
  obtain ⟨s, m, i, rfl⟩ := hd
  obtain ⟨t, n, j, rfl⟩ := he
  refine ⟨_, _, _, rfl, ?_⟩
  unfold dv
  dsimp only
  rw [sg_xor, Rat.natCast_mul, p2_add]
  grind

/-- A finite word. -/
def Fw (x : Nat) : Prop := Fnt (FloatKind.f64.decode x)

/-- What an operation gives: a finite word near the number a, and a itself where a word holds it. -/
def Gives (o : Option Nat) (a : Rat) (c : Rat) : Prop := ∃ r, o = some r ∧ Fw r ∧ (vl r - a).abs ≤ a.abs * c + p2 (-1075) ∧ (Rep a → vl r = a)

theorem add_ok {x y : Nat} (hx : Fw x) (hy : Fw y) (hlt : (vl x + vl y).abs < p2 1000) : Gives (Ieee.double.add x y) (vl x + vl y) (p2 (-53)) := by
  obtain ⟨s, m, i, e, hv⟩ := dv_sum hx hy
  have hv' : dv (.number s m i) = vl x + vl y := hv
  obtain ⟨h1, h2, h3⟩ := write_ok s m i _ hv'.symm hlt
  refine ⟨_, ?_, h1, h2, h3⟩
  have e' : (Ieee.double.read x).sum (Ieee.double.read y) = some (.number s m i) := e
  unfold Ieee.Format.add
  rw [e']; rfl

theorem sub_ok {x y : Nat} (hx : Fw x) (hy : Fw y) (hlt : (vl x - vl y).abs < p2 1000) : Gives (Ieee.double.sub x y) (vl x - vl y) (p2 (-53)) := by
  obtain ⟨s, m, i, e, hv⟩ := dv_sum hx (fnt_opp hy)
  have hv' : dv (.number s m i) = vl x - vl y := by rw [hv, dv_opp]; unfold vl; grind
  obtain ⟨h1, h2, h3⟩ := write_ok s m i _ hv'.symm hlt
  refine ⟨_, ?_, h1, h2, h3⟩
  have e' : (Ieee.double.read x).sum (Ieee.double.read y).opposite = some (.number s m i) := e
  unfold Ieee.Format.sub
  rw [e']; rfl

theorem mul_ok {x y : Nat} (hx : Fw x) (hy : Fw y) (hlt : (vl x * vl y).abs < p2 1000) : Gives (Ieee.double.mul x y) (vl x * vl y) (p2 (-53)) := by
  obtain ⟨s, m, i, e, hv⟩ := dv_product hx hy
  have hv' : dv (.number s m i) = vl x * vl y := hv
  obtain ⟨h1, h2, h3⟩ := write_ok s m i _ hv'.symm hlt
  refine ⟨_, ?_, h1, h2, h3⟩
  have e' : (Ieee.double.read x).product (Ieee.double.read y) = some (.number s m i) := e
  unfold Ieee.Format.mul
  rw [e']; rfl

theorem log2_bounds {m : Nat} (h : m ≠ 0) : p2 (m.log2 : Int) ≤ (m : Rat) ∧ (m : Rat) < p2 ((m.log2 : Int) + 1) := by
  refine ⟨?_, ?_⟩
  · rw [p2_nat]; exact Rat.natCast_le_natCast.2 (Nat.log2_self_le h)
  · have : (m.log2 : Int) + 1 = ((m.log2 + 1 : Nat) : Int) := by omega
    rw [this, p2_nat]; exact Rat.natCast_lt_natCast.2 Nat.lt_log2_self

/-- The quotient before it is written: near the true one, and it itself where a word holds that. -/
theorem dv_quotient {d e : Ieee.Datum} (hd : Fnt d) (he : Fnt e) (h0 : dv e ≠ 0) : ∃ s m i, d.quotient 54 e = some (.number s m i) ∧ (dv (.number s m i) - dv d / dv e).abs ≤ (dv d / dv e).abs * p2 (-54) ∧ (Rep (dv d / dv e) → dv (.number s m i) = dv d / dv e) := by
  obtain ⟨s, m, i, rfl⟩ := hd
  obtain ⟨t, n, j, rfl⟩ := he
  have hn : n ≠ 0 := fun h => h0 (by rw [h]; unfold dv; simp)
  have hq : (Ieee.Datum.number s m i).quotient 54 (.number t n j) = some (.number (s ^^ t) (2 * ((m <<< (54 + n.log2 - m.log2)) / n) + ((m <<< (54 + n.log2 - m.log2)) % n != 0).toNat) (i - j - (54 + n.log2 - m.log2 : Nat) - 1)) := by
    show (if n = 0 then _ else _) = _
    rw [if_neg hn]
  refine ⟨_, _, _, hq, ?_⟩
  clear hq
  obtain ⟨more, hmore⟩ : ∃ more, more = 54 + n.log2 - m.log2 := ⟨_, rfl⟩
  rw [← hmore]
  obtain ⟨D, hD⟩ : ∃ D, D = m <<< more := ⟨_, rfl⟩
  rw [← hD]
  obtain ⟨u, hu⟩ : ∃ u : Rat, u = p2 (i - j - (more : Int) - 1) := ⟨_, rfl⟩
  have hup : 0 < u := by rw [hu]; exact p2_pos _
  have hnp : (0 : Rat) < n := by exact_mod_cast Nat.pos_of_ne_zero hn
  have hjp := p2_pos j
  have hDm : (D : Rat) = (m : Rat) * p2 (more : Int) := by rw [hD, Nat.shiftLeft_eq, Rat.natCast_mul, p2_nat]
  -- the true quotient
  have hquo : dv (.number s m i) / dv (.number t n j) * (n : Rat) = sg (s ^^ t) * (2 * ((D : Rat) * u)) := by
    have hi : p2 i = 2 * (p2 (more : Int) * u) * p2 j := by
      have a1 : i = (1 : Int) + ((more : Int) + (i - j - (more : Int) - 1)) + j := by omega
      have a2 := congrArg p2 a1
      rw [p2_add, p2_add, p2_add, p2_one, ← hu] at a2
      exact a2
    have hd0 : dv (.number t n j) ≠ 0 := h0
    have hsg : sg t * sg t = 1 := by cases t <;> simp [sg] <;> grind
    have : dv (.number s m i) / dv (.number t n j) * (n : Rat) * dv (.number t n j) = sg (s ^^ t) * (2 * ((D : Rat) * u)) * dv (.number t n j) := by
      have h1 : dv (.number s m i) / dv (.number t n j) * (n : Rat) * dv (.number t n j) = (dv (.number s m i) / dv (.number t n j) * dv (.number t n j)) * (n : Rat) := by grind
      rw [h1, Rat.div_mul_cancel hd0]
      unfold dv
      dsimp only
      rw [hi, hDm, sg_xor]
      grind
    have h2 := congrArg (· / dv (.number t n j)) this
    simp only [Rat.mul_div_cancel hd0] at h2
    exact h2
  obtain ⟨E, hE⟩ : ∃ E, E = dv (.number s m i) / dv (.number t n j) := ⟨_, rfl⟩
  rw [← hE] at hquo ⊢
  have hEa : E.abs * (n : Rat) = 2 * ((D : Rat) * u) := by
    have h1 : E = sg (s ^^ t) * (2 * ((D : Rat) * u) * (n : Rat)⁻¹) := by
      have := congrArg (· * (n : Rat)⁻¹) hquo
      have h3 := Rat.mul_inv_cancel (n : Rat) (by grind)
      grind
    have hnn : 0 ≤ 2 * ((D : Rat) * u) * (n : Rat)⁻¹ := by
      have := Rat.inv_pos.2 hnp
      have h4 : 0 ≤ (D : Rat) * u := Rat.mul_nonneg Rat.natCast_nonneg (Rat.le_of_lt hup)
      exact Rat.mul_nonneg (by grind) (Rat.le_of_lt this)
    have h2 : E.abs = 2 * ((D : Rat) * u) * (n : Rat)⁻¹ := by
      rw [h1, sg_abs, Rat.abs_of_nonneg hnn]
    have h3 := Rat.inv_mul_cancel (n : Rat) (by grind)
    rw [h2]
    grind
  have hEs : E = sg (s ^^ t) * E.abs := by
    have hsg : sg (s ^^ t) * sg (s ^^ t) = 1 := by cases (s ^^ t) <;> simp [sg] <;> grind
    have h1 : (E - sg (s ^^ t) * E.abs) * (n : Rat) = 0 := by
      have : (E - sg (s ^^ t) * E.abs) * (n : Rat) = E * n - sg (s ^^ t) * (E.abs * n) := by grind
      rw [this, hquo, hEa]
      grind
    rcases Rat.mul_eq_zero.1 h1 with h | h <;> grind
  obtain ⟨F, hF⟩ : ∃ F, F = D / n := ⟨_, rfl⟩
  obtain ⟨r, hr⟩ : ∃ r, r = D % n := ⟨_, rfl⟩
  rw [← hF, ← hr]
  have hdm : D = n * F + r := by rw [hF, hr]; exact (Nat.div_add_mod D n).symm
  have hrn : r < n := by rw [hr]; exact Nat.mod_lt _ (by omega)
  have hdmR : (D : Rat) = (n : Rat) * F + r := by rw [hdm, Rat.natCast_add, Rat.natCast_mul]
  obtain ⟨st, hst⟩ : ∃ st : Nat, st = (r != 0).toNat := ⟨_, rfl⟩
  rw [← hst]
  have hdvq : dv (.number (s ^^ t) (2 * F + st) (i - j - (more : Int) - 1)) - E = sg (s ^^ t) * (((2 * F + st : Nat) : Rat) * u - E.abs) := by
    conv => lhs; rw [hEs]
    unfold dv
    dsimp only
    rw [← hu]
    grind
  have hnum : (((2 * F + st : Nat) : Rat) * u - E.abs) * (n : Rat) = ((st : Rat) * n - 2 * (r : Rat)) * u := by
    have : (((2 * F + st : Nat) : Rat) * u - E.abs) * (n : Rat) = ((2 * F + st : Nat) : Rat) * u * n - E.abs * n := by grind
    rw [this, hEa, hdmR, Rat.natCast_add, Rat.natCast_mul]
    have a2 : ((2 : Nat) : Rat) = 2 := rfl
    rw [a2]
    grind
  refine ⟨?_, fun hR => ?_⟩
  · rw [hdvq, sg_abs]
    have hrnR : (r : Rat) < n := Rat.natCast_lt_natCast.2 hrn
    have hr0 : (0 : Rat) ≤ r := Rat.natCast_nonneg
    have hb : -u ≤ (((2 * F + st : Nat) : Rat) * u - E.abs) ∧ (((2 * F + st : Nat) : Rat) * u - E.abs) ≤ u := by
      have hst' : ((st : Rat) * n - 2 * (r : Rat)) ≤ n ∧ -(n : Rat) ≤ ((st : Rat) * n - 2 * (r : Rat)) := by
        by_cases hr' : r = 0
        · subst hr'
          have : st = 0 := by rw [hst]; rfl
          subst this
          simp
          grind
        · have : st = 1 := by rw [hst]; simp [hr']
          subst this
          have a1 : ((1 : Nat) : Rat) = 1 := rfl
          rw [a1]
          grind
      have u1 := Rat.mul_le_mul_of_nonneg_right hst'.1 (Rat.le_of_lt hup)
      have u2 := Rat.mul_le_mul_of_nonneg_right hst'.2 (Rat.le_of_lt hup)
      rw [← hnum] at u1 u2
      constructor
      · refine Rat.le_of_mul_le_mul_right (c := (n : Rat)) ?_ hnp
        grind
      · refine Rat.le_of_mul_le_mul_right (c := (n : Rat)) ?_ hnp
        grind
    by_cases hm : m = 0
    · have hD0 : (D : Rat) = 0 := by rw [hDm, hm]; simp
      have hE0 : E.abs = 0 := by
        have : E.abs * (n : Rat) = 0 := by rw [hEa, hD0]; simp
        rcases Rat.mul_eq_zero.1 this with h | h <;> grind
      have hDn : D = 0 := by exact_mod_cast hD0
      have hF0 : F = 0 := by rw [hF, hDn]; simp
      have hr0 : r = 0 := by rw [hr, hDn]; simp
      have hst0 : st = 0 := by rw [hst, hr0]; rfl
      rw [hF0, hst0, hE0]
      simp
      have z : ((0 : Rat) - 0) = 0 := by grind
      rw [z, Rat.abs_zero]
      exact Rat.le_refl
    · have hbig : u ≤ E.abs * p2 (-54) := by
        refine Rat.le_of_mul_le_mul_right (c := (n : Rat)) ?_ hnp
        have h1 : E.abs * p2 (-54) * n = (2 * ((D : Rat) * u)) * p2 (-54) := by rw [← hEa]; grind
        rw [h1]
        have h2 : (n : Rat) ≤ 2 * (D : Rat) * p2 (-54) := by
          have b1 := (log2_bounds hn).2
          have b2 := (log2_bounds hm).1
          have b3 : p2 ((n.log2 : Int) + 54) ≤ (D : Rat) := by
            have c1 := Rat.mul_le_mul_of_nonneg_right b2 (Rat.le_of_lt (p2_pos (more : Int)))
            rw [← p2_add, ← hDm] at c1
            exact Rat.le_trans (p2_le (by omega)) c1
          have c2 := Rat.mul_le_mul_of_nonneg_right b3 (Rat.le_of_lt (p2_pos (-54)))
          rw [← p2_add] at c2
          have c3 : (n.log2 : Int) + 54 + -54 = n.log2 := by omega
          rw [c3] at c2
          rw [p2_succ] at b1
          grind
        have := Rat.mul_le_mul_of_nonneg_right h2 (Rat.le_of_lt hup)
        grind
      rw [abs_le_iff]
      grind
  · obtain ⟨M, P, hM, hP, hMP⟩ := hR
    have hz : (((2 * F + st : Nat) : Rat) * u - E.abs) = 0 := by
      by_cases hm : m = 0
      · have hD0 : (D : Rat) = 0 := by rw [hDm, hm]; simp
        have hE0 : E.abs = 0 := by
          have : E.abs * (n : Rat) = 0 := by rw [hEa, hD0]; simp
          rcases Rat.mul_eq_zero.1 this with h | h <;> grind
        have hDn : D = 0 := by exact_mod_cast hD0
        have hF0 : F = 0 := by rw [hF, hDn]; simp
        have hr0 : r = 0 := by rw [hr, hDn]; simp
        have hst0 : st = 0 := by rw [hst, hr0]; rfl
        rw [hF0, hst0, hE0]
        simp
        grind
      · -- M * p2 P * n = 2 D u, and D > 2^53 n: so P is beyond u's place
        have hkey : (M : Rat) * p2 P * n = 2 * ((D : Rat) * u) := by rw [← hMP]; exact hEa
        have b1 := (log2_bounds hn).2
        have b2 := (log2_bounds hm).1
        have b3 : p2 ((n.log2 : Int) + 54) ≤ (D : Rat) := by
          have c1 := Rat.mul_le_mul_of_nonneg_right b2 (Rat.le_of_lt (p2_pos (more : Int)))
          rw [← p2_add, ← hDm] at c1
          exact Rat.le_trans (p2_le (by omega)) c1
        have hM' : (M : Rat) ≤ p2 53 := by
          have h53 : (53 : Int) = ((53 : Nat) : Int) := rfl
          rw [h53, p2_nat]
          have h2 : (2 ^ 53 : Nat) = 9007199254740992 := by decide
          rw [h2]
          exact Rat.natCast_le_natCast.2 (by omega)
        have hPu : p2 (i - j - (more : Int)) < p2 P := by
          have hu2 : p2 (i - j - (more : Int)) = 2 * u := by
            have : i - j - (more : Int) = (i - j - (more : Int) - 1) + 1 := by omega
            rw [this, p2_succ, ← hu]
          rw [hu2]
          -- p2 53 * p2 P * n ≥ 2 D u ≥ 2 * p2 (log n + 54) * u > 2 p2 53 n u
          have d1 : 2 * (p2 ((n.log2 : Int) + 54) * u) ≤ p2 53 * p2 P * n := by
            have e1 := Rat.mul_le_mul_of_nonneg_right b3 (Rat.le_of_lt hup)
            have e2 := Rat.mul_le_mul_of_nonneg_right (Rat.mul_le_mul_of_nonneg_right hM' (Rat.le_of_lt (p2_pos P))) (Rat.le_of_lt hnp)
            grind
          have d2 : p2 ((n.log2 : Int) + 54) = p2 53 * p2 ((n.log2 : Int) + 1) := by rw [← p2_add]; congr 1; omega
          rw [d2] at d1
          have d3 : p2 53 * (n : Rat) * (2 * u) < p2 53 * (n : Rat) * p2 P := by
            have f1 := Rat.mul_lt_mul_of_pos_left b1 (p2_pos 53)
            have f2 := Rat.mul_lt_mul_of_pos_right f1 (c := 2 * u) (by grind)
            grind
          exact Rat.lt_of_mul_lt_mul_left d3 (Rat.mul_nonneg (Rat.le_of_lt (p2_pos _)) (Rat.le_of_lt hnp))
        have hlt := p2_lt_of hPu
        have hPs := p2_sub P (i - j - (more : Int))
        rw [p2_toNat (by omega)] at hPs
        obtain ⟨G, hG⟩ : ∃ G : Nat, G = 2 ^ (P - (i - j - (more : Int))).toNat := ⟨_, rfl⟩
        have hu2 : p2 (i - j - (more : Int)) = 2 * u := by
          have : i - j - (more : Int) = (i - j - (more : Int) - 1) + 1 := by omega
          rw [this, p2_succ, ← hu]
        rw [← hG, hu2] at hPs
        rw [← hPs] at hkey hMP
        have hDG : (D : Rat) = ((n * (M * G) : Nat) : Rat) := by
          rw [Rat.natCast_mul, Rat.natCast_mul]
          have h4 : (D : Rat) * (2 * u) = (n : Rat) * ((M : Rat) * (G : Rat)) * (2 * u) := by grind
          have h5 := congrArg (· / (2 * u)) h4
          have h6 : (2 * u) ≠ 0 := by grind
          simp only [Rat.mul_div_cancel h6] at h5
          exact h5
        have hDG' : D = n * (M * G) := Rat.natCast_inj.1 hDG
        have hF' : F = M * G := by rw [hF, hDG', Nat.mul_div_cancel_left _ (by omega)]
        have hr' : r = 0 := by rw [hr, hDG', Nat.mul_mod_right]
        have hst0 : st = 0 := by rw [hst, hr']; rfl
        rw [hst0, hF', hMP, Nat.add_zero, Rat.natCast_mul, Rat.natCast_mul]
        have a2 : ((2 : Nat) : Rat) = 2 := rfl
        rw [a2]
        grind
    have : dv (.number (s ^^ t) (2 * F + st) (i - j - (more : Int) - 1)) - E = 0 := by rw [hdvq, hz]; simp
    grind

theorem div_ok {x y : Nat} (hx : Fw x) (hy : Fw y) (h0 : vl y ≠ 0) (hlt : (vl x / vl y).abs < p2 999) : Gives (Ieee.double.div x y) (vl x / vl y) (p2 (-52)) := by
  obtain ⟨s, m, i, e, hn, hex⟩ := dv_quotient hx hy h0
  have e' : (Ieee.double.read x).quotient 54 (Ieee.double.read y) = some (.number s m i) := e
  have hn' : (dv (.number s m i) - vl x / vl y).abs ≤ (vl x / vl y).abs * p2 (-54) := hn
  have hex' : Rep (vl x / vl y) → dv (.number s m i) = vl x / vl y := hex
  obtain ⟨E, hE⟩ : ∃ E, E = vl x / vl y := ⟨_, rfl⟩
  rw [← hE] at hn' hex' hlt ⊢
  obtain ⟨q, hq⟩ : ∃ q, q = dv (.number s m i) := ⟨_, rfl⟩
  rw [← hq] at hn' hex'
  have hA : 0 ≤ E.abs := Rat.abs_nonneg
  have p54 : p2 (-54) ≤ 1 := by rw [← p2_zero]; exact p2_le (by omega)
  have z1 : 2 * p2 (-54) = p2 (-53) := by rw [← p2_succ]; rfl
  have z2 : 2 * p2 (-53) = p2 (-52) := by rw [← p2_succ]; rfl
  have z3 : 2 * p2 999 = p2 1000 := by rw [← p2_succ]; rfl
  have hp54 := p2_pos (-54)
  have hEp : E.abs * p2 (-54) ≤ E.abs := by
    have := Rat.mul_le_mul_of_nonneg_left p54 hA
    grind
  rw [abs_le_iff] at hn'
  have hqa : q.abs ≤ E.abs + E.abs * p2 (-54) := by
    rw [abs_le_iff]
    have := (abs_le_iff (x := E) (c := E.abs)).1 Rat.le_refl
    grind
  have hql : q.abs < p2 1000 := by grind
  obtain ⟨h1, h2, h3⟩ := write_ok s m i q hq hql
  refine ⟨_, ?_, h1, ?_, ?_⟩
  · unfold Ieee.Format.div
    have : Ieee.double.fractionBits + 2 = 54 := rfl
    rw [this, e']; rfl
  · rw [abs_le_iff] at h2 ⊢
    have hq2 : q.abs * p2 (-53) ≤ E.abs * p2 (-53) + E.abs * p2 (-54) := by
      have e1 := Rat.mul_le_mul_of_nonneg_right hqa (Rat.le_of_lt (p2_pos (-53)))
      have e2 : E.abs * p2 (-54) * p2 (-53) ≤ E.abs * p2 (-54) := by
        have e3 : p2 (-53) ≤ 1 := by rw [← p2_zero]; exact p2_le (by omega)
        have := Rat.mul_le_mul_of_nonneg_left e3 (Rat.mul_nonneg hA (Rat.le_of_lt hp54))
        grind
      grind
    have w1 : E.abs * p2 (-52) = 2 * (E.abs * p2 (-53)) := by rw [← z2]; grind
    have w2 : E.abs * p2 (-53) = 2 * (E.abs * p2 (-54)) := by rw [← z1]; grind
    grind
  · intro hR
    have := hex' hR
    rw [← this] at hR ⊢
    exact h3 hR
theorem rootFrom_ok (n : Nat) : ∀ (todo root : Nat), root * root ≤ n → n < (root + 2 ^ todo) * (root + 2 ^ todo) → Ieee.Datum.rootFrom n todo root * Ieee.Datum.rootFrom n todo root ≤ n ∧ n < (Ieee.Datum.rootFrom n todo root + 1) * (Ieee.Datum.rootFrom n todo root + 1) := by
  intro todo
  induction todo with
  | zero => intro root h1 h2; exact ⟨h1, by simpa [Ieee.Datum.rootFrom] using h2⟩
  | succ todo ih =>
    intro root h1 h2
    unfold Ieee.Datum.rootFrom
    dsimp only
    rw [Nat.one_shiftLeft]
    have e : root + 2 ^ (todo + 1) = (root + 2 ^ todo) + 2 ^ todo := by rw [Nat.pow_succ]; omega
    rw [e] at h2
    split
    · rename_i h; exact ih _ h h2
    · rename_i h; exact ih _ h1 (by omega)

theorem root_ok (n : Nat) : Ieee.Datum.rootFrom n (n.log2 / 2 + 1) 0 * Ieee.Datum.rootFrom n (n.log2 / 2 + 1) 0 ≤ n ∧ n < (Ieee.Datum.rootFrom n (n.log2 / 2 + 1) 0 + 1) * (Ieee.Datum.rootFrom n (n.log2 / 2 + 1) 0 + 1) := by
  refine rootFrom_ok n _ 0 (by omega) ?_
  rw [Nat.zero_add, ← Nat.pow_add]
  exact Nat.lt_of_lt_of_le Nat.lt_log2_self (Nat.pow_le_pow_right (by omega) (by omega))

/-- What a square root is: not negative, its square near a; a root that a word holds exactly. -/
def Roots (o : Option Nat) (a : Rat) : Prop := ∃ r, o = some r ∧ Fw r ∧ 0 ≤ vl r ∧ (vl r * vl r - a).abs ≤ a * p2 (-49) ∧ (∀ c, 0 ≤ c → c * c = a → Rep c → vl r = c)

theorem sq_le {a b : Rat} (ha : 0 ≤ a) (hb : 0 ≤ b) (h : a * a ≤ b * b) : a ≤ b := by
  by_cases h2 : a ≤ b
  · exact h2
  · have h2' : b < a := Rat.not_le.1 h2
    have h4 := Rat.mul_lt_mul_of_pos_right h2' (c := a) (by grind)
    have h5 := Rat.mul_le_mul_of_nonneg_left (Rat.le_of_lt h2') hb
    grind

theorem sq_lt {a b : Rat} (ha : 0 ≤ a) (hb : 0 ≤ b) (h : a * a < b * b) : a < b := by
  by_cases h2 : b ≤ a
  · have h4 := Rat.mul_le_mul_of_nonneg_left h2 hb
    have h5 := Rat.mul_le_mul_of_nonneg_right h2 ha
    grind
  · exact Rat.not_le.1 h2

theorem read_place' {x : Nat} {s : Bool} {m : Nat} {i : Int} (h : FloatKind.f64.decode x = .number s m i) : -1074 ≤ i := by
  unfold FloatKind.decode Ieee.Format.read at h
  have e : FloatKind.f64.format.leastPlace = -1074 := rfl
  simp only [e] at h
  split at h
  · cases h; omega
  · split at h
    · cases h; omega
    · split at h <;> cases h

/-- The root before it is written. -/
theorem dv_root {m : Nat} {i : Int} (hm : m ≠ 0) : ∃ q k, (Ieee.Datum.number false m i).root 54 = some (.number false q k) ∧
    0 ≤ (q : Rat) * p2 k ∧ ((q : Rat) * p2 k * ((q : Rat) * p2 k) - (m : Rat) * p2 i).abs ≤ (m : Rat) * p2 i * p2 (-52) ∧
    (∀ c, 0 ≤ c → c * c = (m : Rat) * p2 i → Rep c → (q : Rat) * p2 k = c) := by
  obtain ⟨more0, hm0⟩ : ∃ more0 : Nat, more0 = 2 * 54 - m.log2 := ⟨_, rfl⟩
  obtain ⟨more, hmore⟩ : ∃ more : Nat, more = more0 + ((i - more0) % 2).toNat := ⟨_, rfl⟩
  obtain ⟨n, hn⟩ : ∃ n, n = m <<< more := ⟨_, rfl⟩
  obtain ⟨w, hw⟩ : ∃ w, w = Ieee.Datum.rootFrom n (n.log2 / 2 + 1) 0 := ⟨_, rfl⟩
  have hroot : (Ieee.Datum.number false m i).root 54 = some (.number false (2 * w + (w * w != n).toNat) ((i - more) / 2 - 1)) := by
    show (if m = 0 then _ else _) = _
    rw [if_neg hm, if_neg (by simp)]
    simp only [← hm0, ← hmore, ← hn, ← hw]
  refine ⟨_, _, hroot, Rat.mul_nonneg Rat.natCast_nonneg (Rat.le_of_lt (p2_pos _)), ?_⟩
  clear hroot
  obtain ⟨k, hk⟩ : ∃ k : Int, k = (i - more) / 2 := ⟨_, rfl⟩
  have hke : i = (more : Int) + (k + k) := by omega
  rw [← hk]
  have hr := root_ok n
  rw [← hw] at hr
  obtain ⟨h, hh⟩ : ∃ h, h = p2 (k - 1) := ⟨_, rfl⟩
  have hhp : 0 < h := by rw [hh]; exact p2_pos _
  rw [← hh]
  have hpk : p2 k = 2 * h := by
    have : k = (k - 1) + 1 := by omega
    rw [this, p2_succ, ← hh]
  have ha : (m : Rat) * p2 i = (n : Rat) * (4 * (h * h)) := by
    rw [hke, p2_add, p2_add, hpk, hn, Nat.shiftLeft_eq, Rat.natCast_mul, p2_nat]
    grind
  have hn108 : p2 108 ≤ (n : Rat) := by
    have b2 := (log2_bounds hm).1
    have c1 := Rat.mul_le_mul_of_nonneg_right b2 (Rat.le_of_lt (p2_pos (more : Int)))
    rw [← p2_add] at c1
    rw [hn, Nat.shiftLeft_eq, Rat.natCast_mul, ← p2_nat]
    exact Rat.le_trans (p2_le (by omega)) c1
  have h54 : p2 54 * p2 54 = p2 108 := by rw [← p2_add]; rfl
  have hw1 : (w : Rat) * w ≤ n := by rw [← Rat.natCast_mul]; exact Rat.natCast_le_natCast.2 hr.1
  have hw2 : (n : Rat) < ((w : Rat) + 1) * ((w : Rat) + 1) := by
    have := Rat.natCast_lt_natCast.2 hr.2
    rw [Rat.natCast_mul, Rat.natCast_add] at this
    exact this
  have hw0 : (0 : Rat) ≤ w := Rat.natCast_nonneg
  have hw54 : p2 54 < (w : Rat) + 1 := by
    refine sq_lt (Rat.le_of_lt (p2_pos _)) (by grind) ?_
    rw [h54]
    grind
  have hbig : p2 53 + p2 53 = p2 54 := by
    have : p2 54 = 2 * p2 53 := by rw [← p2_succ]; rfl
    grind
  have h1le : 1 ≤ p2 53 := by rw [← p2_zero]; exact p2_le (by omega)
  have hw53 : p2 53 ≤ (w : Rat) := by grind
  have e53 : p2 53 * p2 (-53) = 1 := by rw [← p2_add]; exact p2_zero
  obtain ⟨st, hst⟩ : ∃ st : Nat, st = (w * w != n).toNat := ⟨_, rfl⟩
  rw [← hst]
  have a2 : ((2 : Nat) : Rat) = 2 := rfl
  rw [ha, Rat.natCast_add, Rat.natCast_mul, a2]
  refine ⟨?_, fun c hc hcc hR => ?_⟩
  · by_cases hs : w * w = n
    · have : st = 0 := by rw [hst]; simp [hs]
      rw [this, ← hs]
      have z : (2 * (w : Rat) + ((0 : Nat) : Rat)) * h * ((2 * (w : Rat) + ((0 : Nat) : Rat)) * h) - ((w * w : Nat) : Rat) * (4 * (h * h)) = 0 := by
        rw [Rat.natCast_mul]
        have : ((0 : Nat) : Rat) = 0 := rfl
        rw [this]
        grind
      rw [z, Rat.abs_zero]
      exact Rat.mul_nonneg (Rat.mul_nonneg Rat.natCast_nonneg (by have := Rat.mul_pos hhp hhp; grind)) (Rat.le_of_lt (p2_pos _))
    · have : st = 1 := by rw [hst]; simp [hs]
      rw [this]
      have a1 : ((1 : Nat) : Rat) = 1 := rfl
      rw [a1]
      have hhh := Rat.mul_pos hhp hhp
      obtain ⟨H, hH⟩ : ∃ H, H = h * h := ⟨_, rfl⟩
      rw [← hH] at hhh ⊢
      have z : (2 * (w : Rat) + 1) * h * ((2 * (w : Rat) + 1) * h) - (n : Rat) * (4 * H) = (4 * ((w : Rat) * w) + 4 * w + 1 - 4 * n) * H := by rw [hH]; grind
      rw [z, abs_le_iff]
      -- |4w² + 4w + 1 - 4n| ≤ 4w + 3 ≤ 8w; and 8 w p2 53 ≤ 8 w² ≤ 8 n
      have k1 : 4 * ((w : Rat) * w) + 4 * w + 1 - 4 * n ≤ 4 * w + 1 := by grind
      have k2 : -(4 * (w : Rat) + 3) ≤ 4 * ((w : Rat) * w) + 4 * w + 1 - 4 * n := by grind
      have k3 : 4 * (w : Rat) + 3 ≤ 4 * n * p2 (-52) := by
        have m1 := Rat.mul_le_mul_of_nonneg_right hw53 hw0
        have m2 := Rat.mul_le_mul_of_nonneg_right (Rat.le_trans m1 hw1) (Rat.le_of_lt (p2_pos (-53)))
        have m3 : p2 53 * (w : Rat) * p2 (-53) = w := by
          have : p2 53 * (w : Rat) * p2 (-53) = (p2 53 * p2 (-53)) * w := by grind
          rw [this, e53]; grind
        have m4 : p2 (-52) = 2 * p2 (-53) := by rw [← p2_succ]; rfl
        rw [m4]
        grind
      have k4 := Rat.mul_le_mul_of_nonneg_right (show 4 * ((w : Rat) * w) + 4 * w + 1 - 4 * n ≤ 4 * n * p2 (-52) by grind) (Rat.le_of_lt hhh)
      have k5 := Rat.mul_le_mul_of_nonneg_right (show -(4 * n * p2 (-52)) ≤ 4 * ((w : Rat) * w) + 4 * w + 1 - 4 * n by grind) (Rat.le_of_lt hhh)
      constructor <;> grind
  · obtain ⟨M, P, hM, hP, hMP⟩ := hR
    rw [Rat.abs_of_nonneg hc] at hMP
    have hM' : (M : Rat) ≤ p2 53 := by
      have h53 : (53 : Int) = ((53 : Nat) : Int) := rfl
      rw [h53, p2_nat]
      have h2 : (2 ^ 53 : Nat) = 9007199254740992 := by decide
      rw [h2]
      exact Rat.natCast_le_natCast.2 (by omega)
    have hM0 : (0 : Rat) ≤ M := Rat.natCast_nonneg
    have hkP : k ≤ P := by
      rcases Int.lt_or_le P k with h1 | h1
      · exfalso
        have h2 : p2 P ≤ p2 k := p2_le (by omega)
        have h3 : c ≤ p2 53 * p2 k := by
          rw [hMP]
          exact Rat.le_trans (Rat.mul_le_mul_of_nonneg_left h2 hM0) (Rat.mul_le_mul_of_nonneg_right hM' (Rat.le_of_lt (p2_pos _)))
        have hpp : 0 < p2 53 * p2 k := Rat.mul_pos (p2_pos _) (p2_pos _)
        have h4 : c * c ≤ (p2 53 * p2 k) * (p2 53 * p2 k) := Rat.le_trans (Rat.mul_le_mul_of_nonneg_left h3 hc) (Rat.mul_le_mul_of_nonneg_right h3 (Rat.le_of_lt hpp))
        have h5 : p2 108 * (p2 k * p2 k) ≤ c * c := by
          rw [hcc, hpk]
          have := Rat.mul_le_mul_of_nonneg_right hn108 (c := 4 * (h * h)) (by have := Rat.mul_pos hhp hhp; grind)
          grind
        have h6 : p2 108 = 4 * (p2 53 * p2 53) := by
          have : p2 54 = 2 * p2 53 := by rw [← p2_succ]; rfl
          rw [← h54, this]; grind
        rw [h6] at h5
        have h7 := Rat.mul_pos hpp hpp
        grind
      · exact h1
    have hPs := p2_sub P k
    rw [p2_toNat (by omega)] at hPs
    obtain ⟨G, hG⟩ : ∃ G : Nat, G = 2 ^ (P - k).toNat := ⟨_, rfl⟩
    rw [← hG, hpk] at hPs
    have hcM : c = ((M * G : Nat) : Rat) * (2 * h) := by rw [hMP, ← hPs, Rat.natCast_mul]; grind
    obtain ⟨C, hC⟩ : ∃ C, C = M * G := ⟨_, rfl⟩
    rw [← hC] at hcM
    have hCn : C * C = n := by
      have h1 : ((C * C : Nat) : Rat) * (4 * (h * h)) = (n : Rat) * (4 * (h * h)) := by
        rw [← hcc, hcM, Rat.natCast_mul]; grind
      have h2 := congrArg (· / (4 * (h * h))) h1
      have h3 : (4 * (h * h)) ≠ 0 := by have := Rat.mul_pos hhp hhp; grind
      simp only [Rat.mul_div_cancel h3] at h2
      exact Rat.natCast_inj.1 h2
    have hwC : w = C := by
      have h1 : w ≤ C := by
        rcases Nat.lt_or_ge C w with h | h
        · have := Nat.mul_lt_mul'' h h; omega
        · exact h
      have h2 : C ≤ w := by
        rcases Nat.lt_or_ge w C with h | h
        · have := Nat.mul_le_mul (show w + 1 ≤ C by omega) (show w + 1 ≤ C by omega); omega
        · exact h
      omega
    have hs0 : st = 0 := by rw [hst, hwC, hCn]; simp
    have z0 : ((0 : Nat) : Rat) = 0 := rfl
    rw [hs0, hwC, hcM, z0]
    grind

theorem sqrt_ok {x : Nat} (hx : Fw x) (h0 : 0 ≤ vl x) (hlt : vl x < p2 900) : Roots (Ieee.double.sqrt x) (vl x) := by
  obtain ⟨s, m, i, e⟩ := hx
  have e' : Ieee.double.read x = .number s m i := e
  have hv : vl x = sg s * ((m : Rat) * p2 i) := by unfold vl; rw [e]; rfl
  have hf : Ieee.double.fractionBits + 2 = 54 := rfl
  have hmi : 0 ≤ (m : Rat) * p2 i := Rat.mul_nonneg Rat.natCast_nonneg (Rat.le_of_lt (p2_pos _))
  by_cases hm : m = 0
  · have hv0 : vl x = 0 := by rw [hv, hm]; simp
    have hdv : (0 : Rat) = dv (.number s m i) := by unfold dv; rw [hm]; simp
    obtain ⟨h1, -, h3⟩ := write_ok s m i 0 hdv (by rw [Rat.abs_zero]; exact p2_pos _)
    have h3' := h3 ⟨0, 0, by omega, by omega, by rw [Rat.abs_zero]; simp⟩
    have hr0 : Ieee.double.sqrt x = some (Ieee.double.write (.number s m i)) := by
      unfold Ieee.Format.sqrt
      rw [e', hf]
      have : (Ieee.Datum.number s m i).root 54 = some (.number s m i) := by
        show (if m = 0 then _ else _) = _
        rw [if_pos hm]
      rw [this]; rfl
    refine ⟨_, hr0, h1, by rw [h3']; exact Rat.le_refl, ?_, fun c hc hcc _ => ?_⟩
    · rw [h3', hv0]
      have : ((0 : Rat) * 0 - 0) = 0 := by grind
      rw [this, Rat.abs_zero]; grind
    · rw [hv0] at hcc
      rcases Rat.mul_eq_zero.1 hcc with h | h <;> rw [h, h3']
  · have hs : s = false := by
      cases s with
      | false => rfl
      | true =>
        exfalso
        have hmp : (0 : Rat) < m := by exact_mod_cast Nat.pos_of_ne_zero hm
        have := Rat.mul_pos hmp (p2_pos i)
        rw [hv] at h0
        simp [sg] at h0
        grind
    subst hs
    have hv' : vl x = (m : Rat) * p2 i := by rw [hv]; simp [sg]
    obtain ⟨q, k, hq, hq0, hqn, hqe⟩ := dv_root (i := i) hm
    rw [← hv'] at hqn hqe
    obtain ⟨a, ha⟩ : ∃ a, a = vl x := ⟨_, rfl⟩
    obtain ⟨Q, hQ⟩ : ∃ Q, Q = (q : Rat) * p2 k := ⟨_, rfl⟩
    rw [← hQ] at hq0 hqn hqe
    rw [← ha] at hqn hqe h0 hlt ⊢
    have hdQ : Q = dv (.number false q k) := by rw [hQ]; simp [dv, sg]
    have p52 : p2 (-52) ≤ 1 := by rw [← p2_zero]; exact p2_le (by omega)
    have hap : a * p2 (-52) ≤ a := by
      have := Rat.mul_le_mul_of_nonneg_left p52 h0
      grind
    rw [abs_le_iff] at hqn
    have hQlt : Q < p2 1000 := by
      refine sq_lt hq0 (Rat.le_of_lt (p2_pos _)) ?_
      have h1 : p2 1000 * p2 1000 = p2 2000 := by rw [← p2_add]; rfl
      have h2 : p2 901 ≤ p2 2000 := p2_le (by omega)
      have h3 : p2 901 = 2 * p2 900 := by rw [← p2_succ]; rfl
      grind
    obtain ⟨h1, h2, h3⟩ := write_ok false q k Q hdQ (by rw [Rat.abs_of_nonneg hq0]; exact hQlt)
    rw [Rat.abs_of_nonneg hq0] at h2
    have ha1074 : p2 (-1074) ≤ a := by
      rw [ha, hv']
      have hm1 : (1 : Rat) ≤ m := by exact_mod_cast Nat.pos_of_ne_zero hm
      have h5 := Rat.mul_le_mul_of_nonneg_right hm1 (Rat.le_of_lt (p2_pos i))
      have h6 := p2_le (read_place' e)
      grind
    have p52' : 4 * p2 (-52) ≤ 1 := by
      have h7 : p2 (-50) ≤ 1 := by rw [← p2_zero]; exact p2_le (by omega)
      have h8 : p2 (-50) = 2 * p2 (-51) := by rw [← p2_succ]; rfl
      have h9 : p2 (-51) = 2 * p2 (-52) := by rw [← p2_succ]; rfl
      grind
    have hap4 : 4 * (a * p2 (-52)) ≤ a := by
      have := Rat.mul_le_mul_of_nonneg_left p52' h0
      grind
    have hQ538 : p2 (-538) ≤ Q := by
      refine sq_le (Rat.le_of_lt (p2_pos _)) hq0 ?_
      have h7 : p2 (-538) * p2 (-538) = p2 (-1076) := by rw [← p2_add]; rfl
      have h8 : p2 (-1074) = 2 * p2 (-1075) := by rw [← p2_succ]; rfl
      have h9 : p2 (-1075) = 2 * p2 (-1076) := by rw [← p2_succ]; rfl
      have := p2_pos (-1076)
      grind
    have htiny : p2 (-1075) ≤ Q * p2 (-53) := by
      have h7 := Rat.mul_le_mul_of_nonneg_right hQ538 (Rat.le_of_lt (p2_pos (-53)))
      rw [← p2_add] at h7
      exact Rat.le_trans (p2_le (by omega)) h7
    have z2 : p2 (-52) = 2 * p2 (-53) := by rw [← p2_succ]; rfl
    have hd : (vl (Ieee.double.write (.number false q k)) - Q).abs ≤ Q * p2 (-52) := by rw [z2]; grind
    obtain ⟨R, hR⟩ : ∃ R, R = vl (Ieee.double.write (.number false q k)) := ⟨_, rfl⟩
    rw [← hR] at hd h3
    rw [abs_le_iff] at hd
    have hQp : Q * p2 (-52) ≤ Q := by
      have := Rat.mul_le_mul_of_nonneg_left p52 hq0
      grind
    have hR0 : 0 ≤ R := by grind
    refine ⟨_, by unfold Ieee.Format.sqrt; rw [e', hf, hq]; rfl, h1, by rw [← hR]; exact hR0, ?_, fun c hc hcc hRep => ?_⟩
    · rw [← hR]
      -- |R² - Q²| = |R - Q| (R + Q) ≤ Q p2 (-52) 3 Q ≤ 3 p2 (-52) 2 a
      have hRQ : R ≤ 2 * Q := by grind
      have hQ2 : Q * Q ≤ 2 * a := by grind
      have hsum : 0 ≤ R + Q := by grind
      have f1 := Rat.mul_le_mul_of_nonneg_right hd.2 hsum
      have f2 := Rat.mul_le_mul_of_nonneg_right hd.1 hsum
      have f3 : Q * p2 (-52) * (R + Q) ≤ 6 * (a * p2 (-52)) := by
        have g0 : 0 ≤ Q * p2 (-52) := Rat.mul_nonneg hq0 (Rat.le_of_lt (p2_pos _))
        have g1 := Rat.mul_le_mul_of_nonneg_left (show R + Q ≤ 3 * Q by grind) g0
        have g2 := Rat.mul_le_mul_of_nonneg_right hQ2 (Rat.le_of_lt (p2_pos (-52)))
        grind
      have h7 : p2 (-49) = 2 * p2 (-50) := by rw [← p2_succ]; rfl
      have h8 : p2 (-50) = 2 * p2 (-51) := by rw [← p2_succ]; rfl
      have h9 : p2 (-51) = 2 * p2 (-52) := by rw [← p2_succ]; rfl
      have h10 : a * p2 (-49) = 8 * (a * p2 (-52)) := by rw [h7, h8, h9]; grind
      rw [h10, abs_le_iff]
      constructor <;> grind
    · rw [← hR]
      have := hqe c hc hcc hRep
      rw [← this] at hRep ⊢
      exact h3 hRep

/-! Words in their order, whole numbers as words. -/

theorem vl_fk (x : Nat) (hx : Fw x) : vl x = (fk x : Rat) * p2 (-1074) := by
  obtain ⟨s, m, i, e⟩ := hx
  have hi := read_place e
  unfold vl fk
  rw [e]
  dsimp only
  rw [signed_rat]
  have : (((i + 1074).toNat : Nat) : Int) = i + 1074 := by omega
  rw [this]
  unfold dv
  dsimp only
  have h2 : p2 i = p2 (i + 1074) * p2 (-1074) := by rw [← p2_add]; congr 1; omega
  rw [h2]
  grind

theorem vl_lt {x y : Nat} (hx : Fw x) (hy : Fw y) : vl x < vl y ↔ fk x < fk y := by
  rw [vl_fk x hx, vl_fk y hy, Rat.mul_lt_mul_right (p2_pos _), Rat.intCast_lt_intCast]

theorem vl_le {x y : Nat} (hx : Fw x) (hy : Fw y) : vl x ≤ vl y ↔ fk x ≤ fk y := by
  rw [← Rat.not_lt, vl_lt hy hx]; omega

theorem vl_eq {x y : Nat} (hx : Fw x) (hy : Fw y) : vl x = vl y ↔ fk x = fk y := by
  constructor
  · intro h
    have h1 := (vl_le hx hy).1 (by rw [h]; exact Rat.le_refl)
    have h2 := (vl_le hy hx).1 (by rw [h]; exact Rat.le_refl)
    omega
  · intro h; rw [vl_fk x hx, vl_fk y hy, h]

theorem or_lt {x y : Nat} (hx : Fw x) (hy : Fw y) : (FloatKind.f64.format.order x y == some .lt) = decide (vl x < vl y) := by
  rw [ord_lt hx hy]; exact decide_eq_decide.2 (vl_lt hx hy).symm
theorem or_gt {x y : Nat} (hx : Fw x) (hy : Fw y) : (FloatKind.f64.format.order x y == some .gt) = decide (vl y < vl x) := by
  rw [ord_gt hx hy]; exact decide_eq_decide.2 (vl_lt hy hx).symm
theorem or_eq {x y : Nat} (hx : Fw x) (hy : Fw y) : (FloatKind.f64.format.order x y == some .eq) = decide (vl x = vl y) := by
  rw [ord_eq hx hy]; exact decide_eq_decide.2 (vl_eq hx hy).symm
theorem or_le {x y : Nat} (hx : Fw x) (hy : Fw y) : (FloatKind.f64.format.order x y == some .lt || FloatKind.f64.format.order x y == some .eq) = decide (vl x ≤ vl y) := by
  rw [ord_le hx hy]; exact decide_eq_decide.2 (vl_le hx hy).symm
theorem or_ge {x y : Nat} (hx : Fw x) (hy : Fw y) : (FloatKind.f64.format.order x y == some .gt || FloatKind.f64.format.order x y == some .eq) = decide (vl y ≤ vl x) := by
  rw [ord_ge hx hy]; exact decide_eq_decide.2 (vl_le hy hx).symm

/-- The word x stands for the number a. -/
def Is (x : Nat) (a : Rat) : Prop := Fw x ∧ vl x = a

/-- Whole numbers in units of 2 to the k. -/
theorem rep_int (n : Int) (k : Int) (hn : n.natAbs < 9007199254740992) (hk : -1074 ≤ k) : Rep ((n : Rat) * p2 k) := by
  refine ⟨n.natAbs, k, hn, hk, ?_⟩
  have h0 : 0 ≤ p2 k := Rat.le_of_lt (p2_pos k)
  by_cases h : 0 ≤ n
  · have e : (n : Rat) = ((n.natAbs : Nat) : Rat) := by
      rw [← Rat.intCast_natCast]; congr 1; omega
    rw [← e]
    exact Rat.abs_of_nonneg (Rat.mul_nonneg (Rat.intCast_nonneg.2 h) h0)
  · have e : (n : Rat) = -((n.natAbs : Nat) : Rat) := by
      rw [← Rat.intCast_natCast, ← Rat.intCast_neg]; congr 1; omega
    rw [e]
    have : -((n.natAbs : Nat) : Rat) * p2 k = -(((n.natAbs : Nat) : Rat) * p2 k) := by grind
    rw [this, Rat.abs_neg]
    exact Rat.abs_of_nonneg (Rat.mul_nonneg Rat.natCast_nonneg h0)

theorem rep_whole (n : Int) (hn : n.natAbs < 9007199254740992) : Rep (n : Rat) := by
  have := rep_int n 0 hn (by omega)
  rw [p2_zero, Rat.mul_one] at this
  exact this

theorem int_lt_p2 (n : Int) (k : Nat) (hn : n.natAbs < 2 ^ k) : ((n : Int) : Rat).abs < p2 k := by
  rw [p2_nat]
  have : ((n : Int) : Rat).abs = ((n.natAbs : Nat) : Rat) := by
    by_cases h : 0 ≤ n
    · rw [Rat.abs_of_nonneg (Rat.intCast_nonneg.2 h), ← Rat.intCast_natCast]; congr 1; omega
    · have hle : (n : Rat) ≤ 0 := by
        have := Rat.intCast_le_intCast (a := n) (b := 0)
        rw [Rat.intCast_zero] at this
        exact this.2 (by omega)
      rw [Rat.abs_of_nonpos hle, ← Rat.intCast_neg, ← Rat.intCast_natCast]; congr 1; omega
  rw [this]
  exact Rat.natCast_lt_natCast.2 hn

/-- The word of a whole number. -/
theorem nearest_is (n : Int) (hn : n.natAbs < 9007199254740992) : Is (FloatKind.f64.nearest n) (n : Rat) := by
  have hv : ((n : Int) : Rat) = dv (.number (n < 0) n.natAbs 0) := by
    unfold dv
    dsimp only
    rw [p2_zero, Rat.mul_one]
    exact (sg_natAbs n (decide (n < 0)) (fun _ => rfl)).symm
  have hlt : ((n : Int) : Rat).abs < p2 1000 := by
    have h1 := int_lt_p2 n 53 (by have : (2 ^ 53 : Nat) = 9007199254740992 := by decide
                                  omega)
    exact rlt_le h1 (p2_le (by omega))
  obtain ⟨h1, -, h3⟩ := write_ok (n < 0) n.natAbs 0 _ hv hlt
  exact ⟨h1, h3 (rep_whole n hn)⟩

section Exact
variable {x y : Nat} {a b : Rat}

theorem Is.add (hx : Is x a) (hy : Is y b) (hR : Rep (a + b)) (hlt : (a + b).abs < p2 1000) : ∃ r, Ieee.double.add x y = some r ∧ Is r (a + b) := by
  obtain ⟨hx, rfl⟩ := hx
  obtain ⟨hy, rfl⟩ := hy
  obtain ⟨r, h1, h2, -, h4⟩ := add_ok hx hy hlt
  exact ⟨r, h1, h2, h4 hR⟩

theorem Is.sub (hx : Is x a) (hy : Is y b) (hR : Rep (a - b)) (hlt : (a - b).abs < p2 1000) : ∃ r, Ieee.double.sub x y = some r ∧ Is r (a - b) := by
  obtain ⟨hx, rfl⟩ := hx
  obtain ⟨hy, rfl⟩ := hy
  obtain ⟨r, h1, h2, -, h4⟩ := sub_ok hx hy hlt
  exact ⟨r, h1, h2, h4 hR⟩

theorem Is.mul (hx : Is x a) (hy : Is y b) (hR : Rep (a * b)) (hlt : (a * b).abs < p2 1000) : ∃ r, Ieee.double.mul x y = some r ∧ Is r (a * b) := by
  obtain ⟨hx, rfl⟩ := hx
  obtain ⟨hy, rfl⟩ := hy
  obtain ⟨r, h1, h2, -, h4⟩ := mul_ok hx hy hlt
  exact ⟨r, h1, h2, h4 hR⟩

theorem Is.div (hx : Is x a) (hy : Is y b) (h0 : b ≠ 0) (hR : Rep (a / b)) (hlt : (a / b).abs < p2 999) : ∃ r, Ieee.double.div x y = some r ∧ Is r (a / b) := by
  obtain ⟨hx, rfl⟩ := hx
  obtain ⟨hy, rfl⟩ := hy
  obtain ⟨r, h1, h2, -, h4⟩ := div_ok hx hy h0 hlt
  exact ⟨r, h1, h2, h4 hR⟩
end Exact

/-! Numbers on a grid: whole numbers n in units of 2 to the -k, held exactly. -/

/-- The word x stands for n units of 2 to the -k. -/
def Gd (k : Nat) (x : Nat) (n : Int) : Prop := Is x ((n : Rat) * p2 (-(k : Int)))

section Grid
variable {k : Nat} {x y : Nat} {n m : Int}

theorem gd_lt (k : Nat) (hk : k ≤ 900) {n : Int} (hn : n.natAbs < 9007199254740992) : ((n : Rat) * p2 (-(k : Int))).abs < p2 1000 := by
  have h1 := int_lt_p2 n 53 (by have : (2 ^ 53 : Nat) = 9007199254740992 := by decide
                                omega)
  have h2 : p2 (-(k : Int)) ≤ 1 := by rw [← p2_zero]; exact p2_le (by omega)
  have h3 : ((n : Rat) * p2 (-(k : Int))).abs ≤ (n : Rat).abs := by
    have h4 := Rat.mul_le_mul_of_nonneg_left h2 (Rat.abs_nonneg (x := (n : Rat)))
    have h5 := (abs_le_iff (x := (n : Rat)) (c := (n : Rat).abs)).1 Rat.le_refl
    have hp := Rat.le_of_lt (p2_pos (-(k : Int)))
    have h6 := Rat.mul_le_mul_of_nonneg_right h5.1 hp
    have h7 := Rat.mul_le_mul_of_nonneg_right h5.2 hp
    rw [abs_le_iff]
    grind
  exact rle_lt h3 (rlt_le h1 (p2_le (by omega)))

theorem Gd.fw (h : Gd k x n) : Fw x := h.1

theorem Gd.lt (hx : Gd k x n) (hy : Gd k y m) : (FloatKind.f64.format.order x y == some .lt) = decide (n < m) := by
  rw [or_lt hx.1 hy.1, hx.2, hy.2]
  refine decide_eq_decide.2 ?_
  rw [Rat.mul_lt_mul_right (p2_pos _), Rat.intCast_lt_intCast]

theorem Gd.gt (hx : Gd k x n) (hy : Gd k y m) : (FloatKind.f64.format.order x y == some .gt) = decide (m < n) := by
  rw [or_gt hx.1 hy.1, hx.2, hy.2]
  refine decide_eq_decide.2 ?_
  rw [Rat.mul_lt_mul_right (p2_pos _), Rat.intCast_lt_intCast]

theorem Gd.eq (hx : Gd k x n) (hy : Gd k y m) : (FloatKind.f64.format.order x y == some .eq) = decide (n = m) := by
  rw [or_eq hx.1 hy.1, hx.2, hy.2]
  refine decide_eq_decide.2 ⟨fun h => ?_, fun h => by rw [h]⟩
  have h2 := congrArg (· / p2 (-(k : Int))) h
  have h3 : p2 (-(k : Int)) ≠ 0 := by have := p2_pos (-(k : Int)); grind
  simp only [Rat.mul_div_cancel h3] at h2
  exact Rat.intCast_inj.1 h2

theorem Gd.add (hx : Gd k x n) (hy : Gd k y m) (hk : k ≤ 900) (hb : (n + m).natAbs < 9007199254740992) : ∃ r, Ieee.double.add x y = some r ∧ Gd k r (n + m) := by
  have e : (n : Rat) * p2 (-(k : Int)) + (m : Rat) * p2 (-(k : Int)) = ((n + m : Int) : Rat) * p2 (-(k : Int)) := by rw [Rat.intCast_add]; grind
  have h := Is.add hx hy
  rw [e] at h
  exact h (rep_int _ _ hb (by omega)) (gd_lt k hk hb)

theorem Gd.sub (hx : Gd k x n) (hy : Gd k y m) (hk : k ≤ 900) (hb : (n - m).natAbs < 9007199254740992) : ∃ r, Ieee.double.sub x y = some r ∧ Gd k r (n - m) := by
  have e : (n : Rat) * p2 (-(k : Int)) - (m : Rat) * p2 (-(k : Int)) = ((n - m : Int) : Rat) * p2 (-(k : Int)) := by rw [Rat.intCast_sub]; grind
  have h := Is.sub hx hy
  rw [e] at h
  exact h (rep_int _ _ hb (by omega)) (gd_lt k hk hb)

/-- Halves: of twice n units. -/
theorem Gd.half (hx : Gd k x (2 * n)) {two : Nat} (h2 : Is two 2) (hk : k ≤ 900) (hb : n.natAbs < 9007199254740992) : ∃ r, Ieee.double.div x two = some r ∧ Gd k r n := by
  have e : ((2 * n : Int) : Rat) * p2 (-(k : Int)) / 2 = (n : Rat) * p2 (-(k : Int)) := by
    rw [Rat.intCast_mul]
    have : ((2 : Int) : Rat) = 2 := rfl
    rw [this]
    have h3 : (2 : Rat) * (n : Rat) * p2 (-(k : Int)) = ((n : Rat) * p2 (-(k : Int))) * 2 := by grind
    rw [h3, Rat.mul_div_cancel (by decide)]
  have h := Is.div hx h2 (by decide)
  rw [e] at h
  refine h (rep_int _ _ hb (by omega)) ?_
  have h1 := int_lt_p2 n 53 (by have : (2 ^ 53 : Nat) = 9007199254740992 := by decide
                                omega)
  have h2' : p2 (-(k : Int)) ≤ 1 := by rw [← p2_zero]; exact p2_le (by omega)
  have h3 : ((n : Rat) * p2 (-(k : Int))).abs ≤ (n : Rat).abs := by
    have h4 := Rat.mul_le_mul_of_nonneg_left h2' (Rat.abs_nonneg (x := (n : Rat)))
    have h5 := (abs_le_iff (x := (n : Rat)) (c := (n : Rat).abs)).1 Rat.le_refl
    have hp := Rat.le_of_lt (p2_pos (-(k : Int)))
    have h6 := Rat.mul_le_mul_of_nonneg_right h5.1 hp
    have h7 := Rat.mul_le_mul_of_nonneg_right h5.2 hp
    rw [abs_le_iff]
    grind
  exact rle_lt h3 (rlt_le h1 (p2_le (by omega)))

/-- A whole number on a finer grid. -/
theorem Gd.of_int {n : Int} (h : Is x (n : Rat)) (k : Nat) : Gd k x (n * 2 ^ k) := by
  refine ⟨h.1, h.2.trans ?_⟩
  rw [Rat.intCast_mul, Rat.intCast_pow]
  have : (((2 : Int) : Rat)) ^ k = p2 (k : Int) := by unfold p2; rw [Rat.zpow_natCast]; rfl
  rw [this, Rat.mul_assoc, ← p2_add]
  have : (k : Int) + -(k : Int) = 0 := by omega
  rw [this, p2_zero, Rat.mul_one]
end Grid
end Lox
