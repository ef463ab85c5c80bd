/- The Hilbert curves' plain functions on lists of numbers: exchanges, turns, places. Conditions: none. -/
import Derived.Test.YtidbohofjljkcaaDoorKit
namespace Hil
open Go Go.RowKit Lox

def swp (i j : Nat) (xs : List Int) : List Int := (xs.set i (xs.getD j 0)).set j (xs.getD i 0)
def inv (n : Nat) (x : Int) : Int := 2 ^ n - 1 - x
def flp (n i j : Nat) (xs : List Int) : List Int := (xs.set i (inv n (xs.getD j 0))).set j (inv n (xs.getD i 0))
def ivt (n i j : Nat) (xs : List Int) : List Int := (xs.set i (inv n (xs.getD i 0))).set j (inv n (xs.getD j 0))

def rot2 (n e : Nat) (xs : List Int) : List Int :=
  match e with
  | 0 => swp 0 1 xs
  | 3 => flp n 0 1 xs
  | _ => xs

def rot3 (n e : Nat) (xs : List Int) : List Int :=
  match e with
  | 0 => swp 1 2 (swp 0 2 xs)
  | 1 | 2 => swp 0 2 (swp 1 2 xs)
  | 3 | 4 => ivt n 0 1 xs
  | 5 | 6 => flp n 0 2 (flp n 1 2 xs)
  | 7 => flp n 1 2 (flp n 0 2 xs)
  | _ => xs

def rot4 (n e : Nat) (xs : List Int) : List Int :=
  match e with
  | 0 => swp 1 3 (swp 0 3 xs)
  | 1 | 2 => swp 0 3 (swp 1 3 xs)
  | 3 | 4 => flp n 0 1 (swp 2 3 xs)
  | 5 | 6 => flp n 1 2 (swp 2 3 xs)
  | 7 | 8 => ivt n 0 2 xs
  | 9 | 10 => flp n 1 2 (flp n 2 3 xs)
  | 11 | 12 => flp n 0 1 (flp n 2 3 xs)
  | 13 | 14 => flp n 0 3 (flp n 1 3 xs)
  | 15 => flp n 1 3 (flp n 0 3 xs)
  | _ => xs

def rot (d n e : Nat) (xs : List Int) : List Int :=
  match d with
  | 2 => rot2 n e xs
  | 3 => rot3 n e xs
  | 4 => rot4 n e xs
  | _ => xs

/-- The k-th bit of a number's Gray code. -/
def gb (e k : Nat) : Nat := (e ^^^ (e / 2)) / 2 ^ k % 2

def addc (n e : Nat) : Nat → List Int → List Int
  | _, [] => []
  | k, x :: r => (x + (gb e k : Int) * 2 ^ n) :: addc n e (k + 1) r

def digit (d n P : Nat) : Nat := P / 2 ^ (d * n) % 2 ^ d

def place (d : Nat) : Nat → Nat → List Int
  | 0, _ => List.replicate d 0
  | n + 1, P => addc n (digit d n P) 0 (rot d n (digit d n P) (place d n P))

/-- Each number is from 0 to 2^n - 1. -/
def Ins (n : Nat) (xs : List Int) : Prop := ∀ x ∈ xs, 0 ≤ x ∧ x < 2 ^ n

theorem xor_mask (n m : Nat) (h : m < 2 ^ n) : m ^^^ (2 ^ n - 1) = 2 ^ n - 1 - m := by
  apply Nat.eq_of_testBit_eq
  intro i
  rw [Nat.testBit_xor, Nat.testBit_two_pow_sub_one, show 2 ^ n - 1 - m = 2 ^ n - (m + 1) from by omega, Nat.testBit_two_pow_sub_succ h]
  by_cases hi : i < n
  · simp [hi]
  · have := Nat.testBit_lt_two_pow (Nat.lt_of_lt_of_le h (Nat.pow_le_pow_right (by omega) (Nat.le_of_not_lt hi)))
    simp [hi, this]

theorem two_pow_le (n : Nat) (hn : n ≤ 62) : (2 : Int) ^ n ≤ 4611686018427387904 := by
  have h : 2 ^ n ≤ 2 ^ 62 := Nat.pow_le_pow_right (by omega) hn
  have h2 : ((2 ^ n : Nat) : Int) ≤ ((2 ^ 62 : Nat) : Int) := by exact_mod_cast h
  rw [Int.natCast_pow] at h2
  simpa using h2

theorem two_pow_pos (n : Nat) : (0 : Int) < 2 ^ n := Int.pow_pos (by omega)

theorem wrap_pow (n : Nat) (hn : n ≤ 62) : wrap64 (wrap64 (2 ^ n) - 1) = 2 ^ n - 1 := by
  have := two_pow_le n hn
  have := two_pow_pos n
  unfold wrap64
  omega

theorem bits_xor_i64 (a b : Nat) (ha : a < 9223372036854775808) (hb : b < 9223372036854775808) :
    bits .xor .i64 (a : Int) (b : Int) = ((a ^^^ b : Nat) : Int) := by
  have hx : a ^^^ b < 2 ^ 63 := Nat.xor_lt_two_pow (by omega) (by omega)
  have h1 : (BitVec.ofInt 64 (a : Int)).toNat = a := by
    rw [BitVec.ofInt_natCast, BitVec.toNat_ofNat]; exact Nat.mod_eq_of_lt (by omega)
  have h2 : (BitVec.ofInt 64 (b : Int)).toNat = b := by
    rw [BitVec.ofInt_natCast, BitVec.toNat_ofNat]; exact Nat.mod_eq_of_lt (by omega)
  show IntKind.i64.wrap ((BitVec.ofInt 64 (a : Int) ^^^ BitVec.ofInt 64 (b : Int)).toNat : Int) = _
  rw [BitVec.toNat_xor, h1, h2, IntKind.wrap_i64]
  omega

theorem bits_and_i64 (a b : Nat) (ha : a < 9223372036854775808) (hb : b < 9223372036854775808) :
    bits .and .i64 (a : Int) (b : Int) = ((a &&& b : Nat) : Int) := by
  have hx : a &&& b < 2 ^ 63 := Nat.and_lt_two_pow _ (by omega)
  have h1 : (BitVec.ofInt 64 (a : Int)).toNat = a := by
    rw [BitVec.ofInt_natCast, BitVec.toNat_ofNat]; exact Nat.mod_eq_of_lt (by omega)
  have h2 : (BitVec.ofInt 64 (b : Int)).toNat = b := by
    rw [BitVec.ofInt_natCast, BitVec.toNat_ofNat]; exact Nat.mod_eq_of_lt (by omega)
  show IntKind.i64.wrap ((BitVec.ofInt 64 (a : Int) &&& BitVec.ofInt 64 (b : Int)).toNat : Int) = _
  rw [BitVec.toNat_and, h1, h2, IntKind.wrap_i64]
  omega

theorem bits_or_i64 (a b : Nat) (ha : a < 9223372036854775808) (hb : b < 9223372036854775808) :
    bits .or .i64 (a : Int) (b : Int) = ((a ||| b : Nat) : Int) := by
  have hx : a ||| b < 2 ^ 63 := Nat.or_lt_two_pow (by omega) (by omega)
  have h1 : (BitVec.ofInt 64 (a : Int)).toNat = a := by
    rw [BitVec.ofInt_natCast, BitVec.toNat_ofNat]; exact Nat.mod_eq_of_lt (by omega)
  have h2 : (BitVec.ofInt 64 (b : Int)).toNat = b := by
    rw [BitVec.ofInt_natCast, BitVec.toNat_ofNat]; exact Nat.mod_eq_of_lt (by omega)
  show IntKind.i64.wrap ((BitVec.ofInt 64 (a : Int) ||| BitVec.ofInt 64 (b : Int)).toNat : Int) = _
  rw [BitVec.toNat_or, h1, h2, IntKind.wrap_i64]
  omega

theorem xor_inv (n : Nat) (x : Int) (hn : n ≤ 62) (h0 : 0 ≤ x) (h : x < 2 ^ n) : bits .xor .i64 x (wrap64 (wrap64 (2 ^ n) - 1)) = inv n x := by
  unfold inv
  rw [wrap_pow n hn]
  obtain ⟨m, rfl⟩ := Int.eq_ofNat_of_zero_le h0
  have hm : m < 2 ^ n := by
    have : (m : Int) < ((2 ^ n : Nat) : Int) := by rw [Int.natCast_pow]; simpa using h
    exact_mod_cast this
  have hp : 2 ^ n ≤ 2 ^ 62 := Nat.pow_le_pow_right (by omega) hn
  have e : ((2 : Int) ^ n - 1) = ((2 ^ n - 1 : Nat) : Int) := by
    rw [Int.natCast_sub (by omega)]; simp
  rw [e, bits_xor_i64 _ _ (by omega) (by omega), xor_mask _ _ hm]
  omega

theorem inv_in (n : Nat) (x : Int) (h : 0 ≤ x ∧ x < 2 ^ n) : 0 ≤ inv n x ∧ inv n x < 2 ^ n := by unfold inv; omega

theorem Ins.getD {n : Nat} {xs : List Int} (h : Ins n xs) {i : Nat} (hi : i < xs.length) : 0 ≤ xs.getD i 0 ∧ xs.getD i 0 < 2 ^ n := by
  have : xs.getD i 0 = xs[i] := by simp [hi]
  rw [this]
  exact h _ (List.getElem_mem hi)

theorem Ins.set {n : Nat} {xs : List Int} (h : Ins n xs) (i : Nat) {x : Int} (hx : 0 ≤ x ∧ x < 2 ^ n) : Ins n (xs.set i x) := by
  intro y hy
  rcases List.mem_or_eq_of_mem_set hy with h1 | rfl
  · exact h _ h1
  · exact hx

theorem Ins.swp {n i j : Nat} {xs : List Int} (h : Ins n xs) (hi : i < xs.length) (hj : j < xs.length) : Ins n (swp i j xs) :=
  (h.set i (h.getD hj)).set j (h.getD hi)
theorem Ins.flp {n i j : Nat} {xs : List Int} (h : Ins n xs) (hi : i < xs.length) (hj : j < xs.length) : Ins n (flp n i j xs) :=
  (h.set i (inv_in _ _ (h.getD hj))).set j (inv_in _ _ (h.getD hi))
theorem Ins.ivt {n i j : Nat} {xs : List Int} (h : Ins n xs) (hi : i < xs.length) (hj : j < xs.length) : Ins n (ivt n i j xs) :=
  (h.set i (inv_in _ _ (h.getD hi))).set j (inv_in _ _ (h.getD hj))

theorem len_swp (i j : Nat) (xs : List Int) : (swp i j xs).length = xs.length := by simp [Hil.swp]
theorem len_flp (n i j : Nat) (xs : List Int) : (flp n i j xs).length = xs.length := by simp [Hil.flp]
theorem len_ivt (n i j : Nat) (xs : List Int) : (ivt n i j xs).length = xs.length := by simp [Hil.ivt]
end Hil
