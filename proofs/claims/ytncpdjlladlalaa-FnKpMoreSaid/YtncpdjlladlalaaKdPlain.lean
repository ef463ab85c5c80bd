/- What a keeper within a distance holds, in plain Lean. Conditions: none. -/
import Derived.Test.YtncpdjlladlalaaKdKeep
import Derived.Test.YtncpdjlladlalaaKpPlain2
namespace Go.Proofs.Ytncpdjlladlalaa.D
open Go.RowKit Lox
set_option linter.unusedVariables false

def runD (S : Nat) (ds : List Nat) : List El := ds.foldl (keepD S) [none]

theorem runD_snoc (S : Nat) (ds : List Nat) (d : Nat) : runD S (ds ++ [d]) = keepD S (runD S ds) d := by simp [runD]

def within (S : Nat) (ds : List Nat) : List Nat := ds.filter fun d => decide (fk d ≤ fk S)

structure KeptIn (S : Nat) (l : List El) (ds : List Nat) : Prop where
  heap : HeapN l l.length
  perm : l.Perm (none :: (within S ds).map some)

theorem KeptIn.start (S : Nat) : KeptIn S [none] [] := ⟨fun i h0 h1 => by simp at h1; omega, .refl _⟩

theorem keepD_ok {S : Nat} {l : List El} {ds : List Nat} (d : Nat) (h : KeptIn S l ds) : KeptIn S (keepD S l d) (ds ++ [d]) := by
  unfold keepD
  by_cases hd : decide (fk d ≤ fk S) = true
  · rw [if_pos hd]
    have hp := pushF_ok (some d) h.heap
    refine ⟨hp.2.1, hp.1.trans ?_⟩
    have e : within S (ds ++ [d]) = within S ds ++ [d] := by unfold within; rw [List.filter_append]; simp [of_decide_eq_true hd]
    rw [e, List.map_append]
    exact (h.perm.cons _).trans ((List.Perm.swap _ _ _).trans ((List.perm_append_comm (l₁ := [some d])).cons _))
  · rw [if_neg hd]
    refine ⟨h.heap, ?_⟩
    have e : within S (ds ++ [d]) = within S ds := by
      unfold within
      rw [List.filter_append]
      have : ¬ fk d ≤ fk S := fun h => hd (decide_eq_true h)
      simp [this]
    rw [e]
    exact h.perm

theorem runD_kept (S : Nat) : ∀ ds, KeptIn S (runD S ds) ds := snoc_ind (KeptIn.start S) fun l d h => by rw [runD_snoc]; exact keepD_ok d h

theorem KeptIn.length {S : Nat} {l : List El} {ds : List Nat} (h : KeptIn S l ds) : 0 < l.length ∧ l.length ≤ ds.length + 1 := by
  have h1 := h.perm.length_eq
  have h2 := List.length_filter_le (fun d => decide (fk d ≤ fk S)) ds
  unfold within at h1
  simp at h1
  omega

theorem KeptIn.top {S : Nat} {l : List El} {ds : List Nat} (h : KeptIn S l ds) : at' l 0 = none := by
  have := heap_mem h.heap (h.perm.mem_iff.2 (List.mem_cons_self))
  cases hx : at' l 0 with
  | none => rfl
  | some m => rw [hx] at this; exact absurd this (by simp [leE])
end Go.Proofs.Ytncpdjlladlalaa.D
