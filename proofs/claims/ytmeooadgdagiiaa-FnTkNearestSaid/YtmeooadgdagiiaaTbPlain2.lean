/- Points that are inserted into a k-d tree, as plain functions. Conditions: none. -/
import Derived.Test.YtmeooadgdagiiaaTbPlain
namespace Lox.KB
variable {α : Type}

theorem ins_each (le : Nat → α → α → Bool) (dims : Nat) (hd : 0 < dims) (p : α) : ∀ (t : T α) (d : Nat), d < dims → t.Each (fun _ d => d < dims) → (ins le dims p d t).Each (fun _ d => d < dims) := by
  intro t
  induction t with
  | nil => intro d hdd _; exact ⟨hdd, trivial, trivial⟩
  | node q pl l r ihl ihr =>
    intro d hdd h
    unfold ins
    split
    · exact ⟨h.1, ihl _ (Nat.mod_lt _ hd) h.2.1, h.2.2⟩
    · exact ⟨h.1, h.2.1, ihr _ (Nat.mod_lt _ hd) h.2.2⟩

theorem ins_perm (le : Nat → α → α → Bool) (dims : Nat) (p : α) : ∀ (t : T α) (d : Nat), (ins le dims p d t).all.Perm (p :: t.all) := by
  intro t
  induction t with
  | nil => intro d; exact List.Perm.refl _
  | node q pl l r ihl ihr =>
    intro d
    unfold ins
    split
    · simp only [T.all]
      exact (ihl _).append_right _
    · simp only [T.all]
      have h := (ihr ((pl + 1) % dims)).cons q
      have h2 := h.append_left l.all
      refine h2.trans ?_
      have h3 : (q :: p :: r.all).Perm (p :: q :: r.all) := List.Perm.swap _ _ _
      refine (h3.append_left l.all).trans ?_
      exact List.perm_middle

theorem inss_each (le : Nat → α → α → Bool) (dims : Nat) (hd : 0 < dims) : ∀ (ps : List α) (t : T α), t.Each (fun _ d => d < dims) → (inss le dims t ps).Each (fun _ d => d < dims) := by
  intro ps
  induction ps with
  | nil => intro t h; exact h
  | cons p ps ih => intro t h; exact ih _ (ins_each le dims hd p t 0 hd h)

theorem inss_perm (le : Nat → α → α → Bool) (dims : Nat) : ∀ (ps : List α) (t : T α), (inss le dims t ps).all.Perm (t.all ++ ps) := by
  intro ps
  induction ps with
  | nil => intro t; rw [List.append_nil]; exact List.Perm.refl _
  | cons p ps ih =>
    intro t
    refine (ih (ins le dims p 0 t)).trans ?_
    refine ((ins_perm le dims p t 0).append_right ps).trans ?_
    exact (List.perm_middle (l₁ := t.all) (l₂ := ps) (a := p)).symm

theorem inss_snoc (le : Nat → α → α → Bool) (dims : Nat) (t : T α) (ps : List α) (p : α) : inss le dims t (ps ++ [p]) = ins le dims p 0 (inss le dims t ps) := by
  unfold inss
  rw [List.foldl_append]
  rfl
end Lox.KB
