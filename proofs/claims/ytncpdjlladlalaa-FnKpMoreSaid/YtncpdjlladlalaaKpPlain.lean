/- Heaps with the greatest first, as lists: what the library's up and down make of them. Nothing of the program in sight. Conditions: none. -/
import Derived.Test.YtncpdjlladlalaaKey
namespace Lox
open Go Go.RowKit
set_option linter.unusedVariables false

/-- An element of a keeper's heap: its mark (none), or a number. -/
abbrev El := Option Nat

/-- Is a at most b? The mark is the greatest. -/
def leE : El → El → Prop
  | _, none => True
  | none, some _ => False
  | some d, some e => fk d ≤ fk e

/-- Go's Less: is a to stand nearer to the top than b? -/
def lessE : El → El → Bool
  | none, _ => true
  | some _, none => false
  | some d, some e => decide (fk e < fk d)

theorem leE_trans {a b c : El} (h1 : leE a b) (h2 : leE b c) : leE a c := by
  cases a <;> cases b <;> cases c <;> simp_all [leE]
  omega

theorem leE_refl (a : El) : leE a a := by cases a <;> simp [leE]

theorem lessE_true {a b : El} (h : lessE a b = true) : leE b a := by
  cases a <;> cases b <;> simp_all [leE, lessE]
  omega

theorem lessE_false {a b : El} (h : lessE a b = false) : leE a b := by
  cases a <;> cases b <;> simp_all [leE, lessE]

def at' (l : List El) (i : Nat) : El := l.getD i none
def swapE (l : List El) (i j : Nat) : List El := (l.set i (at' l j)).set j (at' l i)

theorem swapE_length (l : List El) (i j : Nat) : (swapE l i j).length = l.length := by simp [swapE]

theorem at_swap {l : List El} {i j : Nat} (hi : i < l.length) (hj : j < l.length) (k : Nat) : at' (swapE l i j) k = if k = j then at' l i else if k = i then at' l j else at' l k := by
  unfold at' swapE
  simp only [List.getD_eq_getElem?_getD, List.getElem?_set, List.length_set]
  by_cases h1 : k = j
  · subst h1
    simp [hj, at']
  · by_cases h2 : k = i
    · subst h2
      simp [h1, Ne.symm h1, hi, at']
    · simp [h1, h2, Ne.symm h1, Ne.symm h2]

theorem swapE_perm {l : List El} {i j : Nat} (hi : i < l.length) (hj : j < l.length) : (swapE l i j).Perm l := by
  have h := List.set_set_perm (as := l) hi hj
  unfold swapE at'
  simpa [List.getD_eq_getElem?_getD, hi, hj] using h

def par (i : Nat) : Nat := (i - 1) / 2

/-- The first n are a heap. -/
def HeapN (l : List El) (n : Nat) : Prop := ∀ i, 0 < i → i < n → leE (at' l i) (at' l (par i))

def upF (l : List El) (j : Nat) : List El :=
  if h : j = 0 then l else if lessE (at' l j) (at' l (par j)) then upF (swapE l (par j) j) (par j) else l
termination_by j
decreasing_by unfold par; omega

theorem upF_perm : ∀ (j : Nat) (l : List El), j < l.length → (upF l j).Perm l ∧ (upF l j).length = l.length := by
  intro j
  induction j using Nat.strongRecOn with
  | ind j ih =>
    intro l hj
    rw [upF]
    split
    · exact ⟨.refl _, rfl⟩
    · split
      · have hp : par j < j := by unfold par; omega
        obtain ⟨h1, h2⟩ := ih (par j) hp (swapE l (par j) j) (by rw [swapE_length]; omega)
        exact ⟨h1.trans (swapE_perm (by omega) hj), h2.trans (swapE_length _ _ _)⟩
      · exact ⟨.refl _, rfl⟩

theorem upF_heap : ∀ (j : Nat) (l : List El), j < l.length → (∀ i, 0 < i → i < l.length → i ≠ j → leE (at' l i) (at' l (par i))) →
    (∀ c, 0 < c → c < l.length → par c = j → 0 < j → leE (at' l c) (at' l (par j))) → HeapN (upF l j) l.length := by
  intro j
  induction j using Nat.strongRecOn with
  | ind j ih =>
    intro l hj h1 h2
    rw [upF]
    split
    · rename_i h0
      subst h0
      exact fun i a b => h1 i a b (by omega)
    · rename_i h0
      have hp : par j < j := by unfold par; omega
      have hpl : par j < l.length := by omega
      split
      · rename_i hl
        have hle := lessE_true hl
        have e := at_swap (l := l) hpl hj
        have := ih (par j) hp (swapE l (par j) j) (by rw [swapE_length]; omega) (fun i a b hne => ?_) (fun c a b hc hp0 => ?_)
        · rw [swapE_length] at this; exact this
        · rw [swapE_length] at b
          by_cases hij : i = j
          · subst hij
            rw [e i, if_pos rfl, e (par i), if_neg (by omega), if_pos rfl]
            exact hle
          · rw [e i, if_neg hij, if_neg hne, e (par i)]
            by_cases hpj : par i = j
            · rw [if_pos hpj]; exact h2 i a b hpj (by omega)
            · rw [if_neg hpj]
              by_cases hpp : par i = par j
              · rw [if_pos hpp]
                have := h1 i a b hij
                rw [hpp] at this
                exact leE_trans this hle
              · rw [if_neg hpp]; exact h1 i a b hij
        · rw [swapE_length] at b
          have hpp : par (par j) < par j := by unfold par at hp0 ⊢; omega
          rw [e (par (par j)), if_neg (by omega), if_neg (by omega)]
          have hup := h1 (par j) hp0 hpl (by omega)
          by_cases hcj : c = j
          · rw [e c, if_pos hcj]; exact hup
          · have hcp : par c < c := by unfold par; omega
            rw [e c, if_neg hcj, if_neg (by omega)]
            have := h1 c a b hcj
            rw [hc] at this
            exact leE_trans this hup
      · rename_i hl
        have hle := lessE_false (Bool.eq_false_iff.2 hl)
        intro i a b
        by_cases hij : i = j
        · subst hij; exact hle
        · exact h1 i a b hij

def downF (l : List El) (i n : Nat) : List El × Nat :=
  if h : n ≤ 2 * i + 1 then (l, i) else
    let j := if 2 * i + 2 < n ∧ lessE (at' l (2 * i + 2)) (at' l (2 * i + 1)) = true then 2 * i + 2 else 2 * i + 1
    if lessE (at' l j) (at' l i) then downF (swapE l i j) j n else (l, i)
termination_by n - i
decreasing_by
  have : i < j ∧ j < n := by
    show i < (if 2 * i + 2 < n ∧ lessE (at' l (2 * i + 2)) (at' l (2 * i + 1)) = true then 2 * i + 2 else 2 * i + 1) ∧ (if 2 * i + 2 < n ∧ lessE (at' l (2 * i + 2)) (at' l (2 * i + 1)) = true then 2 * i + 2 else 2 * i + 1) < n
    split <;> omega
  omega

/-- The child that stands nearer to the top. -/
def kid (l : List El) (i n : Nat) : Nat := if 2 * i + 2 < n ∧ lessE (at' l (2 * i + 2)) (at' l (2 * i + 1)) = true then 2 * i + 2 else 2 * i + 1

theorem kid_bd {l : List El} {i n : Nat} (h : ¬ n ≤ 2 * i + 1) : i < kid l i n ∧ kid l i n < n ∧ par (kid l i n) = i := by
  unfold kid par
  split <;> omega

theorem downF_eq (l : List El) (i n : Nat) : downF l i n = if n ≤ 2 * i + 1 then (l, i) else if lessE (at' l (kid l i n)) (at' l i) then downF (swapE l i (kid l i n)) (kid l i n) n else (l, i) := by
  rw [downF]
  rfl

theorem downF_perm (fuel : Nat) : ∀ (l : List El) (i n : Nat), n ≤ i + fuel → n ≤ l.length → i < n → (downF l i n).1.Perm l ∧ (downF l i n).1.length = l.length ∧ (∀ k, n ≤ k → at' (downF l i n).1 k = at' l k) ∧ i ≤ (downF l i n).2 := by
  induction fuel with
  | zero => intro l i n h1 h2 h3; omega
  | succ fuel ih =>
    intro l i n h1 h2 h3
    rw [downF_eq]
    by_cases h : n ≤ 2 * i + 1
    · rw [if_pos h]; exact ⟨.refl _, rfl, fun _ _ => rfl, Nat.le_refl _⟩
    · rw [if_neg h]
      obtain ⟨k1, k2, k3⟩ := kid_bd (l := l) h
      by_cases hl : lessE (at' l (kid l i n)) (at' l i) = true
      · rw [if_pos hl]
        obtain ⟨a, b, c, d⟩ := ih (swapE l i (kid l i n)) (kid l i n) n (by omega) (by rw [swapE_length]; exact h2) k2
        exact ⟨a.trans (swapE_perm (by omega) (by omega)), b.trans (swapE_length _ _ _), fun k hk => by
          rw [c k hk, at_swap (by omega) (by omega), if_neg (by omega), if_neg (by omega)], by omega⟩
      · rw [if_neg hl]; exact ⟨.refl _, rfl, fun _ _ => rfl, Nat.le_refl _⟩

theorem kid_le {l : List El} {i n c : Nat} (h : ¬ n ≤ 2 * i + 1) (hc0 : 0 < c) (hc : c < n) (hp : par c = i) : leE (at' l c) (at' l (kid l i n)) := by
  have hcc : c = 2 * i + 1 ∨ c = 2 * i + 2 := by unfold par at hp; omega
  unfold kid
  rcases hcc with rfl | rfl
  · split
    · rename_i h1; exact lessE_true h1.2
    · exact leE_refl _
  · split
    · exact leE_refl _
    · rename_i h1
      have : lessE (at' l (2 * i + 2)) (at' l (2 * i + 1)) = false := by
        cases h2 : lessE (at' l (2 * i + 2)) (at' l (2 * i + 1)) with
        | false => rfl
        | true => exact absurd ⟨hc, h2⟩ h1
      exact lessE_false this

theorem downF_heap (fuel : Nat) : ∀ (l : List El) (i n : Nat), n ≤ i + fuel → n ≤ l.length → i < n →
    (∀ c, 0 < c → c < n → par c ≠ i → leE (at' l c) (at' l (par c))) → (∀ c, 0 < c → c < n → par c = i → 0 < i → leE (at' l c) (at' l (par i))) → HeapN (downF l i n).1 n := by
  induction fuel with
  | zero => intro l i n h1 h2 h3; omega
  | succ fuel ih =>
    intro l i n h1 h2 h3 p1 p2
    rw [downF_eq]
    by_cases h : n ≤ 2 * i + 1
    · rw [if_pos h]
      intro c a b
      exact p1 c a b (by unfold par; omega)
    · rw [if_neg h]
      obtain ⟨k1, k2, k3⟩ := kid_bd (l := l) h
      obtain ⟨j, ej⟩ : ∃ j, j = kid l i n := ⟨_, rfl⟩
      rw [← ej] at k1 k2 k3 ⊢
      have hmax : ∀ c, 0 < c → c < n → par c = i → leE (at' l c) (at' l j) := fun c a b hp => by rw [ej]; exact kid_le h a b hp
      by_cases hl : lessE (at' l j) (at' l i) = true
      · rw [if_pos hl]
        have hle := lessE_true hl
        have e := at_swap (l := l) (i := i) (j := j) (by omega) (by omega)
        refine ih (swapE l i j) j n (by omega) (by rw [swapE_length]; exact h2) k2 (fun c a b hne => ?_) (fun c a b hp hj0 => ?_)
        · by_cases hpi : par c = i
          · rw [e (par c), if_neg hne, if_pos hpi]
            by_cases hcj : c = j
            · rw [e c, if_pos hcj]; exact hle
            · have : c ≠ i := by unfold par at hpi; omega
              rw [e c, if_neg hcj, if_neg this]; exact hmax c a b hpi
          · rw [e (par c), if_neg hne, if_neg hpi]
            by_cases hci : c = i
            · rw [e c, if_neg (by omega), if_pos hci]
              subst hci
              exact p2 j (by omega) k2 k3 a
            · have hcj : c ≠ j := fun hh => hpi (by rw [hh]; exact k3)
              rw [e c, if_neg hcj, if_neg hci]; exact p1 c a b hpi
        · have hcj : c ≠ j := by unfold par at hp; omega
          have hci : c ≠ i := by unfold par at hp; omega
          rw [k3, e i, if_neg (by omega), if_pos rfl, e c, if_neg hcj, if_neg hci]
          have := p1 c a b (by omega)
          rw [hp] at this
          exact this
      · rw [if_neg hl]
        have hle := lessE_false (Bool.eq_false_iff.2 hl)
        intro c a b
        by_cases hpi : par c = i
        · rw [hpi]; exact leE_trans (hmax c a b hpi) hle
        · exact p1 c a b hpi

/-- The first of a heap is its greatest. -/
theorem heap_top {l : List El} {n : Nat} (h : HeapN l n) : ∀ i, i < n → leE (at' l i) (at' l 0) := by
  intro i
  induction i using Nat.strongRecOn with
  | ind i ih =>
    intro hi
    by_cases h0 : i = 0
    · subst h0; exact leE_refl _
    · have hp : par i < i := by unfold par; omega
      exact leE_trans (h i (by omega) hi) (ih (par i) hp (by omega))

/-- An element more, and the heap is made right again. -/
def pushF (l : List El) (x : El) : List El := upF (l ++ [x]) l.length

theorem at_append {l : List El} {x : El} (i : Nat) : at' (l ++ [x]) i = if i < l.length then at' l i else if i = l.length then x else none := by
  unfold at'
  simp only [List.getD_eq_getElem?_getD]
  by_cases h : i < l.length
  · rw [List.getElem?_append_left h, if_pos h]
  · rw [if_neg h, List.getElem?_append_right (by omega)]
    by_cases h2 : i = l.length
    · subst h2; simp
    · rw [if_neg h2, List.getElem?_eq_none (by simp; omega)]; rfl

theorem pushF_ok {l : List El} (x : El) (h : HeapN l l.length) : (pushF l x).Perm (x :: l) ∧ HeapN (pushF l x) (pushF l x).length ∧ (pushF l x).length = l.length + 1 := by
  obtain ⟨h1, h2⟩ := upF_perm l.length (l ++ [x]) (by simp)
  have h3 := upF_heap l.length (l ++ [x]) (by simp) (fun i a b hne => by
    have hi : i < l.length := by simp at b; omega
    have hp : par i < i := by unfold par; omega
    rw [at_append, if_pos hi, at_append, if_pos (by omega)]
    exact h i a hi) (fun c a b hc h0 => by
    have : c < l.length + 1 := by simpa using b
    unfold par at hc
    omega)
  unfold pushF
  rw [h2]
  exact ⟨h1.trans (List.perm_append_comm.trans (by simp)), h3, by simp⟩

/-- The first one is replaced, and the heap is made right again. -/
def fixF (l : List El) (x : El) : List El := (downF (l.set 0 x) 0 l.length).1

theorem fixF_ok {l l' : List El} {t : El} (x : El) (hl : l = t :: l') (h : HeapN l l.length) : (fixF l x).Perm (x :: l') ∧ HeapN (fixF l x) (fixF l x).length ∧ (fixF l x).length = l.length := by
  have hlen : 0 < l.length := by rw [hl]; simp
  have hs : l.set 0 x = x :: l' := by rw [hl]; rfl
  obtain ⟨h1, h2, _, _⟩ := downF_perm l.length (l.set 0 x) 0 l.length (by omega) (by simp) hlen
  have h3 := downF_heap l.length (l.set 0 x) 0 l.length (by omega) (by simp) hlen (fun c a b hne => by
    have hp : par c < c := by unfold par; omega
    have := h c a b
    unfold at' at *
    rw [List.getD_eq_getElem?_getD, List.getD_eq_getElem?_getD, List.getElem?_set_ne (by omega), List.getElem?_set_ne (by omega)]
    rw [List.getD_eq_getElem?_getD, List.getD_eq_getElem?_getD] at this
    exact this) (fun c a b hp h0 => by omega)
  unfold fixF
  rw [h2, List.length_set]
  exact ⟨by rw [hs] at h1 ⊢; exact h1, h3, rfl⟩

/-- The first one goes. -/
def popF (l : List El) : List El := (downF (swapE l 0 (l.length - 1)) 0 (l.length - 1)).1.take (l.length - 1)

theorem popF_ok {l l' : List El} {t : El} (hl : l = t :: l') (h : HeapN l l.length) : (popF l).Perm l' ∧ HeapN (popF l) (popF l).length ∧ (popF l).length + 1 = l.length := by
  have hlen : 0 < l.length := by rw [hl]; simp
  obtain ⟨n, hn⟩ : ∃ n, n = l.length - 1 := ⟨_, rfl⟩
  unfold popF
  rw [← hn]
  have e := at_swap (l := l) (i := 0) (j := n) hlen (by omega)
  have ht : at' l 0 = t := by rw [hl]; rfl
  by_cases h0 : n = 0
  · subst h0
    have hl' : l' = [] := by
      have : l.length = l'.length + 1 := by rw [hl]; simp
      exact List.length_eq_zero_iff.1 (by omega)
    subst hl'
    simp only [List.take_zero]
    exact ⟨.refl _, fun i a b => by simp at b, by simp; omega⟩
  · obtain ⟨h1, h2, hk, _⟩ := downF_perm n (swapE l 0 n) 0 n (by omega) (by rw [swapE_length]; omega) (by omega)
    have h3 := downF_heap n (swapE l 0 n) 0 n (by omega) (by rw [swapE_length]; omega) (by omega) (fun c a b hne => by
      have hp : par c < c := by unfold par; omega
      rw [e c, if_neg (by omega), if_neg (by omega), e (par c), if_neg (by omega), if_neg hne]
      exact h c a (by omega)) (fun c a b hp h0 => by omega)
    obtain ⟨m, hm⟩ : ∃ m, m = (downF (swapE l 0 n) 0 n).1 := ⟨_, rfl⟩
    rw [← hm] at h1 h2 h3 hk ⊢
    rw [swapE_length] at h2
    have hmlen : m.length = n + 1 := by omega
    have hlast : at' m n = t := by rw [hk n (Nat.le_refl _), e n, if_pos rfl, ht]
    have hsplit : m = m.take n ++ [t] := by
      have hg : m[n]'(by omega) = t := by
        unfold at' at hlast
        rw [List.getD_eq_getElem?_getD, List.getElem?_eq_getElem (by omega)] at hlast
        simpa using hlast
      rw [← hg, ← List.take_succ_eq_append_getElem (by omega), List.take_of_length_le (by omega)]
    have hp : (t :: m.take n).Perm (t :: l') := by
      have h4 : m.Perm (t :: l') := by rw [← hl]; exact h1.trans (swapE_perm hlen (by omega))
      rw [hsplit] at h4
      exact (List.perm_append_comm.trans h4 : ([t] ++ m.take n).Perm (t :: l'))
    refine ⟨hp.cons_inv, fun i a b => ?_, by rw [List.length_take]; omega⟩
    rw [List.length_take] at b
    have hp : par i < i := by unfold par; omega
    have := h3 i a (by omega)
    unfold at' at *
    rw [List.getD_eq_getElem?_getD, List.getD_eq_getElem?_getD, List.getElem?_take_of_lt (by omega), List.getElem?_take_of_lt (by omega)]
    rw [List.getD_eq_getElem?_getD, List.getD_eq_getElem?_getD] at this
    exact this
end Lox
