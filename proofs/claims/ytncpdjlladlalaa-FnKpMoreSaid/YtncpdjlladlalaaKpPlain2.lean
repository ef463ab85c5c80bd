/- What a keeper of the n least holds, in plain Lean. Conditions: none. -/
import Derived.Test.YtncpdjlladlalaaKpPlain
namespace Lox
open Go Go.RowKit
set_option linter.unusedVariables false

/-- Is a number taken, the greatest being t? -/
def takesE (t : El) (d : Nat) : Bool := match t with
  | none => true
  | some m => decide (fk d ≤ fk m)

def keepK (cap : Nat) (els : List El) (d : Nat) : List El :=
  if takesE (at' els 0) d = true then (if els.length = cap then (downF (els.set 0 (some d)) 0 els.length).1 else pushF els (some d)) else els

def keepV (cap : Nat) (els : List El) (d : Nat) : List El :=
  if takesE (at' els 0) d = true then pushF (if els.length = cap then popF els else els) (some d) else els

/-- What is held behind the numbers ds: all of them and the mark, as long as they are fewer than n; else n of them, the least ones. -/
structure Kept (n : Nat) (l : List El) (ds : List Nat) : Prop where
  heap : HeapN l l.length
  few : ds.length < n → l.Perm (none :: ds.map some)
  full : n ≤ ds.length → ∃ (ks rest : List Nat), l.Perm (ks.map some) ∧ ks.length = n ∧ (ks ++ rest).Perm ds ∧ ∀ a ∈ ks, ∀ b ∈ rest, fk a ≤ fk b

theorem Kept.start {n : Nat} (h : 0 < n) : Kept n [none] [] := ⟨fun i a b => by simp at b; omega, fun _ => by simp, fun h2 => by simp at h2; omega⟩

theorem Kept.length {n : Nat} {l : List El} {ds : List Nat} (h : Kept n l ds) : l.length = min (ds.length + 1) n ∨ n = 0 := by
  rcases Nat.lt_or_ge ds.length n with h1 | h1
  · left
    have := (h.few h1).length_eq
    simp at this
    omega
  · left
    obtain ⟨ks, rest, h2, h3, _⟩ := h.full h1
    have := h2.length_eq
    simp at this
    omega

theorem heap_mem {l : List El} (h : HeapN l l.length) {x : El} (hx : x ∈ l) : leE x (at' l 0) := by
  obtain ⟨i, hi, rfl⟩ := List.getElem_of_mem hx
  have := heap_top h i hi
  unfold at' at *
  rw [List.getD_eq_getElem?_getD, List.getElem?_eq_getElem hi] at this
  exact this

/-- One number more. -/
theorem Kept.step {n : Nat} {l l2 : List El} {ds : List Nat} {t : El} {l' : List El} {d : Nat} (hn : 0 < n) (h : Kept n l ds) (hl : l = t :: l') (hh : HeapN l2 l2.length)
    (h1 : takesE t d = true → l.length = n → l2.Perm (some d :: l')) (h2 : takesE t d = true → l.length ≠ n → l2.Perm (some d :: l)) (h3 : takesE t d = false → l2 = l) : Kept n l2 (ds ++ [d]) := by
  have ht : at' l 0 = t := by rw [hl]; rfl
  rcases Nat.lt_or_ge ds.length n with hf | hf
  · have hp := h.few hf
    have hlen : l.length = ds.length + 1 := by have := hp.length_eq; simpa using this
    have htn : t = none := by
      have hm : (none : El) ∈ l := hp.mem_iff.2 (List.mem_cons_self)
      have := heap_mem h.heap hm
      rw [ht] at this
      cases t with
      | none => rfl
      | some m => exact absurd this (by simp [leE])
    subst htn
    have hp' : l'.Perm (ds.map some) := by
      rw [hl] at hp
      exact hp.cons_inv
    by_cases he : l.length = n
    · have hq := h1 rfl he
      refine ⟨hh, fun hx => by simp at hx; omega, fun _ => ⟨ds ++ [d], [], ?_, by simp; omega, by simp, fun a _ b hb => by cases hb⟩⟩
      rw [List.map_append]
      exact hq.trans ((hp'.cons _).trans (List.perm_append_comm (l₁ := [some d])))
    · have hq := h2 rfl he
      refine ⟨hh, fun _ => ?_, fun hx => by simp at hx; omega⟩
      rw [List.map_append]
      exact hq.trans ((hp.cons _).trans ((List.Perm.swap _ _ _).trans ((List.perm_append_comm (l₁ := [some d])).cons _)))
  · obtain ⟨ks, rest, hp, hk, hr, hle⟩ := h.full hf
    have hlen : l.length = n := by have := hp.length_eq; simp at this; omega
    have htm : t ∈ ks.map some := hp.mem_iff.1 (by rw [hl]; exact List.mem_cons_self)
    obtain ⟨m, hm, rfl⟩ := List.mem_map.1 htm
    have hmax : ∀ a ∈ ks, fk a ≤ fk m := fun a ha => by
      have := heap_mem h.heap (x := some a) (hp.mem_iff.2 (List.mem_map.2 ⟨a, ha, rfl⟩))
      rw [ht] at this
      exact this
    by_cases htk : takesE (some m) d = true
    · have hdm : fk d ≤ fk m := of_decide_eq_true htk
      have hq := h1 htk hlen
      have hke := List.perm_cons_erase hm
      have hp' : l'.Perm ((ks.erase m).map some) := by
        have : (some m :: l').Perm (some m :: (ks.erase m).map some) := by
          rw [← hl]
          exact hp.trans (hke.map some)
        exact this.cons_inv
      refine ⟨hh, fun hx => by simp at hx; omega, fun _ => ⟨d :: ks.erase m, m :: rest, hq.trans (hp'.cons _), ?_, ?_, ?_⟩⟩
      · have := hke.length_eq
        simp only [List.length_cons] at this ⊢
        omega
      · have e1 : (d :: ks.erase m ++ m :: rest).Perm (d :: (ks ++ rest)) := by
          refine List.Perm.cons _ ?_
          exact List.perm_middle.trans ((hke.symm.append_right rest))
        exact e1.trans ((hr.cons _).trans (List.perm_append_comm (l₁ := [d])))
      · intro a ha b hb
        have ham : fk a ≤ fk m := by
          rcases List.mem_cons.1 ha with rfl | ha
          · exact hdm
          · exact hmax a (List.mem_of_mem_erase ha)
        rcases List.mem_cons.1 hb with rfl | hb
        · exact ham
        · exact Int.le_trans ham (hle m hm b hb)
    · have hq := h3 (Bool.eq_false_iff.2 htk)
      have hdm : fk m < fk d := by
        have : ¬ fk d ≤ fk m := fun hx => htk (decide_eq_true hx)
        omega
      subst hq
      refine ⟨hh, fun hx => by simp at hx; omega, fun _ => ⟨ks, rest ++ [d], hp, hk, ?_, ?_⟩⟩
      · rw [← List.append_assoc]
        exact hr.append_right [d]
      · intro a ha b hb
        rcases List.mem_append.1 hb with hb | hb
        · exact hle a ha b hb
        · rw [List.mem_singleton.1 hb]
          have := hmax a ha
          omega

theorem cons_of_pos {l : List El} (h : 0 < l.length) : ∃ l', l = at' l 0 :: l' := by
  cases l with
  | nil => simp at h
  | cons a l' => exact ⟨l', rfl⟩

theorem Kept.pos {n : Nat} {l : List El} {ds : List Nat} (h : Kept n l ds) (hn : 0 < n) : 0 < l.length := by
  rcases h.length with h1 | h1 <;> omega

theorem keepK_ok {n : Nat} {l : List El} {ds : List Nat} (d : Nat) (hn : 0 < n) (h : Kept n l ds) : Kept n (keepK n l d) (ds ++ [d]) := by
  obtain ⟨l', hl⟩ := cons_of_pos (h.pos hn)
  unfold keepK
  by_cases ht : takesE (at' l 0) d = true
  · rw [if_pos ht]
    by_cases he : l.length = n
    · rw [if_pos he]
      have := fixF_ok (some d) hl h.heap
      unfold fixF at this
      exact h.step hn hl this.2.1 (fun _ _ => this.1) (fun _ hne => absurd he hne) (fun hx => by rw [ht] at hx; cases hx)
    · rw [if_neg he]
      have := pushF_ok (some d) h.heap
      exact h.step hn hl this.2.1 (fun _ hx => absurd hx he) (fun _ _ => this.1) (fun hx => by rw [ht] at hx; cases hx)
  · rw [if_neg ht]
    exact h.step hn hl h.heap (fun hx => absurd hx ht) (fun hx => absurd hx ht) (fun _ => rfl)

theorem keepV_ok {n : Nat} {l : List El} {ds : List Nat} (d : Nat) (hn : 0 < n) (h : Kept n l ds) : Kept n (keepV n l d) (ds ++ [d]) := by
  obtain ⟨l', hl⟩ := cons_of_pos (h.pos hn)
  unfold keepV
  by_cases ht : takesE (at' l 0) d = true
  · rw [if_pos ht]
    by_cases he : l.length = n
    · rw [if_pos he]
      have h1 := popF_ok hl h.heap
      have := pushF_ok (some d) h1.2.1
      exact h.step hn hl this.2.1 (fun _ _ => this.1.trans (h1.1.cons _)) (fun _ hne => absurd he hne) (fun hx => by rw [ht] at hx; cases hx)
    · rw [if_neg he]
      have := pushF_ok (some d) h.heap
      exact h.step hn hl this.2.1 (fun _ hx => absurd hx he) (fun _ _ => this.1) (fun hx => by rw [ht] at hx; cases hx)
  · rw [if_neg ht]
    exact h.step hn hl h.heap (fun hx => absurd hx ht) (fun hx => absurd hx ht) (fun _ => rfl)

/-- Numbers in increasing order. -/
def Inc (l : List Nat) : Prop := l.Pairwise fun a b => fk a ≤ fk b

theorem inc_keys {l : List Nat} (h : Inc l) : (l.map fk).Pairwise (· ≤ ·) := List.pairwise_map.2 h

theorem inc_same {a b : List Nat} (ha : Inc a) (hb : Inc b) (hp : (a.map fk).Perm (b.map fk)) : a.map fk = b.map fk :=
  List.Perm.eq_of_pairwise (le := (· ≤ ·)) (fun x y _ _ h1 h2 => Int.le_antisymm h1 h2) (inc_keys ha) (inc_keys hb) hp

theorem exists_inc (l : List Nat) : ∃ s, s.Perm l ∧ Inc s := by
  refine ⟨l.mergeSort (fun a b => decide (fk a ≤ fk b)), List.mergeSort_perm _ _, ?_⟩
  have := List.pairwise_mergeSort (le := fun a b : Nat => decide (fk a ≤ fk b)) (fun a b c h1 h2 => by simp at *; omega) (fun a b => by simp; omega) l
  exact this.imp fun h => of_decide_eq_true h

/-- The bits of -1. -/
def NEG1 : Nat := 13830554455654793216

def shown : El → Nat
  | none => NEG1
  | some d => d

/-- What is shown of a keeper, in increasing order, is what the reference says. -/
theorem Kept.told {n : Nat} {l : List El} {ds y s : List Nat} (h : Kept n l ds) (hd : ∀ d ∈ ds, fk NEG1 ≤ fk d) (hy : y.Perm (l.map shown)) (hyi : Inc y) (hs : s.Perm ds) (hsi : Inc s) :
    y.map fk = (if ds.length < n then NEG1 :: s.take (min n s.length) else s.take (min n s.length)).map fk := by
  have hsl : s.length = ds.length := hs.length_eq
  rcases Nat.lt_or_ge ds.length n with hf | hf
  · rw [if_pos hf, List.take_of_length_le (by omega)]
    have h1 : y.Perm (NEG1 :: ds) := by
      refine hy.trans (((h.few hf).map shown).trans ?_)
      simp [shown, Function.comp_def]
    refine inc_same hyi (List.pairwise_cons.2 ⟨fun a ha => hd a (hs.mem_iff.1 ha), hsi⟩) ((h1.trans (hs.symm.cons _)).map fk)
  · rw [if_neg (by omega)]
    obtain ⟨ks, rest, hp, hk, hr, hle⟩ := h.full hf
    have h1 : y.Perm ks := by
      refine hy.trans ((hp.map shown).trans ?_)
      simp [shown, Function.comp_def]
    obtain ⟨r, hrp, hri⟩ := exists_inc rest
    have hall : Inc (y ++ r) := List.pairwise_append.2 ⟨hyi, hri, fun a ha b hb => hle a (h1.mem_iff.1 ha) b (hrp.mem_iff.1 hb)⟩
    have hpp : ((y ++ r).map fk).Perm (s.map fk) := ((h1.append hrp).trans (hr.trans hs.symm)).map fk
    have e := inc_same hall hsi hpp
    have hyl : y.length = n := by rw [h1.length_eq, hk]
    have hmn : min n s.length = n := by omega
    rw [hmn, List.map_take, ← e, List.map_append, List.take_append_of_le_length (by simp; omega), List.take_of_length_le (by simp; omega)]
end Lox
namespace Lox
open Go Go.RowKit

/-- A keeper's heap behind some numbers. -/
def runK (n : Nat) (ds : List Nat) : List El := ds.foldl (keepK n) [none]
def runV (n : Nat) (ds : List Nat) : List El := ds.foldl (keepV n) [none]

theorem runK_snoc (n : Nat) (ds : List Nat) (d : Nat) : runK n (ds ++ [d]) = keepK n (runK n ds) d := by simp [runK]
theorem runV_snoc (n : Nat) (ds : List Nat) (d : Nat) : runV n (ds ++ [d]) = keepV n (runV n ds) d := by simp [runV]

theorem snoc_ind {p : List Nat → Prop} (h0 : p []) (h1 : ∀ l d, p l → p (l ++ [d])) : ∀ l, p l := by
  intro l
  rw [← List.reverse_reverse l]
  induction l.reverse with
  | nil => exact h0
  | cons a t ih => rw [List.reverse_cons]; exact h1 _ _ ih

theorem runK_kept {n : Nat} (hn : 0 < n) : ∀ ds, Kept n (runK n ds) ds := snoc_ind (Kept.start hn) fun l d h => by rw [runK_snoc]; exact keepK_ok d hn h
theorem runV_kept {n : Nat} (hn : 0 < n) : ∀ ds, Kept n (runV n ds) ds := snoc_ind (Kept.start hn) fun l d h => by rw [runV_snoc]; exact keepV_ok d hn h

theorem take_snoc' {ds : List Nat} {k d : Nat} (h : ds[k]? = some d) : ds.take (k + 1) = ds.take k ++ [d] := by
  obtain ⟨hk, e⟩ := List.getElem?_eq_some_iff.1 h
  rw [List.take_succ_eq_append_getElem hk, e]

/-- What a keeper shows, behind each of k numbers. -/
def rowsOf (run : List Nat → List El) (ds : List Nat) (k : Nat) : List (List Nat) := (List.range k).map fun i => (run (ds.take (i + 1))).map shown

theorem rowsOf_length (run : List Nat → List El) (ds : List Nat) (k : Nat) : (rowsOf run ds k).length = k := by simp [rowsOf]
theorem rowsOf_succ (run : List Nat → List El) (ds : List Nat) (k : Nat) : rowsOf run ds (k + 1) = rowsOf run ds k ++ [(run (ds.take (k + 1))).map shown] := by
  unfold rowsOf
  rw [List.range_succ, List.map_append]
  rfl
theorem rowsOf_get {run : List Nat → List El} {ds : List Nat} {k i : Nat} (h : i < k) : (rowsOf run ds k)[i]? = some ((run (ds.take (i + 1))).map shown) := by
  simp [rowsOf, h]
end Lox
