/- The walk in order through a tree that is written down as two lists of numbers: what it is, in plain Lean. Conditions: none. -/
import Derived.Test.YtncpdjlladlalaaFlt
namespace Lox
open Go Go.RowKit

/-- The nodes from node i on, in order, each with its depth. -/
def ino (C F : Nat → Int) (n : Nat) (i dep : Nat) : List (Int × Int) :=
  (if h : (i : Int) < C i ∧ C i < n then ino C F n (C i).toNat (dep + 1) else []) ++ (((i : Int), (dep : Int)) :: (if h : (i : Int) < F i ∧ F i < n then ino C F n (F i).toNat (dep + 1) else []))
termination_by n - i
decreasing_by all_goals omega

/-- The nodes from a child on: none, if it is none. -/
def chl (C F : Nat → Int) (n : Nat) (c : Int) (above : Int) (dep : Nat) : List (Int × Int) := if above < c ∧ c < n then ino C F n c.toNat dep else []

theorem ino_eq (C F : Nat → Int) (n i dep : Nat) : ino C F n i dep = chl C F n (C i) i (dep + 1) ++ (((i : Int), (dep : Int)) :: chl C F n (F i) i (dep + 1)) := by
  rw [ino]
  unfold chl
  rfl

theorem chl_none {C F : Nat → Int} {n : Nat} {c above : Int} {dep : Nat} (h : ¬ (above < c ∧ c < n)) : chl C F n c above dep = [] := if_neg h

theorem chl_node {C F : Nat → Int} {n : Nat} {above : Int} {k dep : Nat} (h : above < k) (hk : k < n) : chl C F n k above dep = chl C F n (C k) k (dep + 1) ++ (((k : Int), (dep : Int)) :: chl C F n (F k) k (dep + 1)) := by
  unfold chl
  rw [if_pos ⟨h, by omega⟩]
  exact ino_eq C F n k dep

/-- How many are true. -/
def cnt (bs : List Bool) : Nat := bs.count true

theorem cnt_le (bs : List Bool) : cnt bs ≤ bs.length := List.count_le_length

theorem cnt_set {bs : List Bool} {k : Nat} (h : bs[k]? = some false) : cnt (bs.set k true) = cnt bs + 1 := by
  obtain ⟨hk, e⟩ := List.getElem?_eq_some_iff.1 h
  unfold cnt
  rw [List.count_set hk, e]
  simp
end Lox
