/- The build of a k-d tree as a plain function: Partition, the picks, the tree. Conditions: none. -/
namespace Lox.KB

variable {α : Type}

/-- Two places of a list, changed one for the other. -/
def swp (l : List α) (i j : Nat) : List α :=
  match l[i]?, l[j]? with
  | some a, some b => (l.set i b).set j a
  | _, _ => l

theorem swp_len (l : List α) (i j : Nat) : (swp l i j).length = l.length := by
  unfold swp; split <;> simp

theorem swp_at (l : List α) (i j : Nat) (hi : i < l.length) (hj : j < l.length) (k : Nat) :
    (swp l i j)[k]? = if k = j then l[i]? else if k = i then l[j]? else l[k]? := by
  unfold swp
  rw [List.getElem?_eq_getElem hi, List.getElem?_eq_getElem hj]
  simp only [List.getElem?_set, List.length_set]
  by_cases h1 : k = j
  · subst h1; simp [hj]
  · by_cases h2 : k = i
    · subst h2; simp [h1, hi, Ne.symm h1]
    · simp [Ne.symm h1, Ne.symm h2, h1, h2]

theorem swp_same (l : List α) (i : Nat) : swp l i i = l := by
  apply List.ext_getElem?
  intro k
  by_cases hi : i < l.length
  · rw [swp_at l i i hi hi]; split
    · next h => rw [h]
    · rfl
  · unfold swp
    rw [List.getElem?_eq_none (l := l) (i := i) (by omega)]

theorem swp_perm (l : List α) (i j : Nat) : (swp l i j).Perm l := by
  by_cases hi : i < l.length
  · by_cases hj : j < l.length
    · have : swp l i j = (l.set i l[j]).set j l[i] := by
        unfold swp; rw [List.getElem?_eq_getElem hi, List.getElem?_eq_getElem hj]
      rw [this]
      exact List.set_set_perm hi hj
    · unfold swp
      rw [List.getElem?_eq_none (l := l) (i := j) (by omega)]
      split
      · next h => cases h
      · exact List.Perm.refl _
  · unfold swp
    rw [List.getElem?_eq_none (l := l) (i := i) (by omega)]

theorem swp_mid (A l B : List α) (i j : Nat) (hi : i < l.length) (hj : j < l.length) : swp (A ++ (l ++ B)) (A.length + i) (A.length + j) = A ++ (swp l i j ++ B) := by
  have get : ∀ k, k < l.length → (A ++ (l ++ B))[A.length + k]? = l[k]? := by
    intro k hk
    rw [List.getElem?_append_right (by omega), List.getElem?_append_left (by omega)]
    congr 1
    omega
  unfold swp
  rw [get i hi, get j hj, List.getElem?_eq_getElem hi, List.getElem?_eq_getElem hj]
  simp only
  rw [List.set_append_right _ _ (by omega), List.set_append_right _ _ (by omega), List.set_append_left _ _ (by omega), List.set_append_left _ _ (by simp; omega)]
  simp

/-- Partition's loop: n rounds to go, at i, with the index that it holds. le x y: x's number is at most y's. -/
def partLoop (le : α → α → Bool) (last : Nat) : Nat → List α → Nat → Nat → List α × Nat
  | 0, l, _, idx => (l, idx)
  | n + 1, l, i, idx =>
    match l[i]?, l[last]? with
    | some x, some p => if le x p then partLoop le last n (swp l idx i) (i + 1) (idx + 1) else partLoop le last n l (i + 1) idx
    | _, _ => (l, idx)

/-- Partition: the list behind it, and the place that it returns. -/
def part (le : α → α → Bool) (l : List α) (k : Nat) : List α × Nat :=
  let r := partLoop le (l.length - 1) (l.length - 1) (swp l k (l.length - 1)) 0 0
  (swp r.1 (l.length - 1) r.2, r.2)

/-- What the loop keeps. -/
structure PI (le : α → α → Bool) (last : Nat) (p : α) (l0 l : List α) (i idx : Nat) : Prop where
  len : l.length = l0.length
  perm : l.Perm l0
  piv : l[last]? = some p
  ii : idx ≤ i
  il : i ≤ last
  low : ∀ j x, j < idx → l[j]? = some x → le x p = true
  high : ∀ j x, idx ≤ j → j < i → l[j]? = some x → le x p = false

theorem partLoop_ok (le : α → α → Bool) (last : Nat) (p : α) (l0 : List α) (hl : last < l0.length) :
    ∀ (n : Nat) (l : List α) (i idx : Nat), i + n = last → PI le last p l0 l i idx →
      PI le last p l0 (partLoop le last n l i idx).1 last (partLoop le last n l i idx).2 := by
  intro n
  induction n with
  | zero => intro l i idx hn h; have : i = last := by omega
            subst this; exact h
  | succ n ih =>
    intro l i idx hn h
    have hi : i < l.length := by rw [h.len]; omega
    have hx : idx < l.length := by have := h.ii; omega
    have hla : last < l.length := by rw [h.len]; omega
    have hle := h.ii
    unfold partLoop
    rw [List.getElem?_eq_getElem hi, h.piv]
    by_cases hc : le l[i] p = true
    · simp only [hc, if_true]
      refine ih _ _ _ (by omega) ⟨by rw [swp_len, h.len], (swp_perm _ _ _).trans h.perm, ?_, by omega, by omega, ?_, ?_⟩
      · rw [swp_at _ _ _ hx hi, if_neg (by omega), if_neg (by omega)]; exact h.piv
      · intro j x hj e
        rw [swp_at _ _ _ hx hi] at e
        by_cases h1 : j = i
        · rw [if_pos h1] at e
          have hxi : idx = i := by omega
          rw [hxi, List.getElem?_eq_getElem hi] at e
          cases e; exact hc
        · rw [if_neg h1] at e
          by_cases h2 : j = idx
          · rw [if_pos h2, List.getElem?_eq_getElem hi] at e; cases e; exact hc
          · rw [if_neg h2] at e; exact h.low j x (by omega) e
      · intro j x h1 h2 e
        rw [swp_at _ _ _ hx hi] at e
        by_cases h3 : j = i
        · rw [if_pos h3] at e; exact h.high idx x (by omega) (by omega) e
        · rw [if_neg h3, if_neg (by omega)] at e; exact h.high j x (by omega) (by omega) e
    · simp only [hc, if_false, Bool.false_eq_true]
      refine ih _ _ _ (by omega) ⟨h.len, h.perm, h.piv, by omega, by omega, h.low, ?_⟩
      intro j x h1 h2 e
      by_cases h3 : j = i
      · rw [h3, List.getElem?_eq_getElem hi] at e; cases e; simpa using hc
      · exact h.high j x h1 (by omega) e

theorem part_len (le : α → α → Bool) (l : List α) (k : Nat) (hk : k < l.length) (p : α) (hp : l[k]? = some p) :
    PI le (l.length - 1) p l (partLoop le (l.length - 1) (l.length - 1) (swp l k (l.length - 1)) 0 0).1 (l.length - 1)
      (partLoop le (l.length - 1) (l.length - 1) (swp l k (l.length - 1)) 0 0).2 := by
  refine partLoop_ok le _ p l (by omega) _ _ 0 0 (by omega) ⟨swp_len _ _ _, swp_perm _ _ _, ?_, by omega, by omega, by intro j _ h; omega, by intro j _ _ h; omega⟩
  rw [swp_at _ _ _ hk (by omega), if_pos rfl, hp]

/-- What Partition does: the place is one of the list's, the picked one stands there, those before are at most it, those behind are not. -/
theorem part_ok (le : α → α → Bool) (l : List α) (k : Nat) (hk : k < l.length) (p : α) (hp : l[k]? = some p) :
    (part le l k).1.length = l.length ∧ (part le l k).1.Perm l ∧ (part le l k).2 < l.length ∧ (part le l k).1[(part le l k).2]? = some p ∧
      (∀ j x, j < (part le l k).2 → (part le l k).1[j]? = some x → le x p = true) ∧
      (∀ j x, (part le l k).2 < j → (part le l k).1[j]? = some x → le x p = false) := by
  have h := part_len le l k hk p hp
  unfold part
  generalize (partLoop le (l.length - 1) (l.length - 1) (swp l k (l.length - 1)) 0 0) = r at h
  obtain ⟨m, idx⟩ := r
  simp only at h ⊢
  have hlen := h.len
  have hle := h.ii
  have hx : idx < m.length := by omega
  have hla : l.length - 1 < m.length := by omega
  refine ⟨by rw [swp_len, h.len], (swp_perm _ _ _).trans h.perm, by omega, ?_, ?_, ?_⟩
  · rw [swp_at _ _ _ hla hx, if_pos rfl]; exact h.piv
  · intro j x hj e
    rw [swp_at _ _ _ hla hx, if_neg (by omega), if_neg (by omega)] at e
    exact h.low j x hj e
  · intro j x hj e
    have hj2 : j < m.length := by
      have := (List.getElem?_eq_some_iff.1 e).1; rw [swp_len] at this; exact this
    rw [swp_at _ _ _ hla hx, if_neg (by omega)] at e
    by_cases h1 : j = l.length - 1
    · rw [if_pos h1] at e; exact h.high idx x (by omega) (by omega) e
    · rw [if_neg h1] at e; exact h.high j x (by omega) (by omega) e

/-- A tree of points. -/
inductive T (α : Type) where
  | nil
  | node (p : α) (plane : Nat) (l r : T α)

def T.all : T α → List α
  | .nil => []
  | .node p _ l r => l.all ++ p :: r.all

/-- Which one is picked of n, and what picks are left. -/
def pick (n : Nat) : List Nat → Nat × List Nat
  | [] => (n / 2, [])
  | k :: ks => (k % n, ks)

/-- build: dims coordinates, at: which number of a point. -/
def build (le : Nat → α → α → Bool) (dims : Nat) : Nat → List α → List Nat → Nat → T α × List Nat
  | 0, _, ks, _ => (.nil, ks)
  | n + 1, l, ks, d =>
    if l.length = 0 then (.nil, ks) else
    let k := pick l.length ks
    let r := part (le d) l k.1
    match r.1[r.2]? with
    | none => (.nil, ks)
    | some p =>
      let a := build le dims n (r.1.take r.2) k.2 ((d + 1) % dims)
      let b := build le dims n (r.1.drop (r.2 + 1)) a.2 ((d + 1) % dims)
      (.node p d a.1 b.1, b.2)

theorem pick_lt (n : Nat) (hn : 0 < n) (ks : List Nat) : (pick n ks).1 < n := by
  unfold pick
  split
  · exact Nat.div_lt_self hn (by decide)
  · exact Nat.mod_lt _ hn

/-- All the points of a tree. -/
def T.Each (P : α → Nat → Prop) : T α → Prop
  | .nil => True
  | .node p d l r => P p d ∧ l.Each P ∧ r.Each P

/-- On a node's left no number on its plane is above its own, on its right all are. -/
def T.Ord (le : Nat → α → α → Bool) : T α → Prop
  | .nil => True
  | .node p d l r => (∀ x ∈ l.all, le d x p = true) ∧ (∀ x ∈ r.all, le d x p = false) ∧ l.Ord le ∧ r.Ord le

theorem split_at {l : List α} {i : Nat} {p : α} (h : l[i]? = some p) : l.take i ++ p :: l.drop (i + 1) = l := by
  obtain ⟨hi, e⟩ := List.getElem?_eq_some_iff.1 h
  rw [← e, List.getElem_cons_drop, List.take_append_drop]

theorem build_node (le : Nat → α → α → Bool) (dims n : Nat) (l : List α) (ks : List Nat) (d : Nat) (hl : 0 < l.length) (p : α) (hp : l[(pick l.length ks).1]? = some p) :
    ∃ (m : List α) (i : Nat), part (le d) l (pick l.length ks).1 = (m, i) ∧ m.length = l.length ∧ m.Perm l ∧ i < l.length ∧ m[i]? = some p ∧
      (∀ x ∈ m.take i, le d x p = true) ∧ (∀ x ∈ m.drop (i + 1), le d x p = false) ∧
      build le dims (n + 1) l ks d = (.node p d (build le dims n (m.take i) (pick l.length ks).2 ((d + 1) % dims)).1
        (build le dims n (m.drop (i + 1)) (build le dims n (m.take i) (pick l.length ks).2 ((d + 1) % dims)).2 ((d + 1) % dims)).1,
        (build le dims n (m.drop (i + 1)) (build le dims n (m.take i) (pick l.length ks).2 ((d + 1) % dims)).2 ((d + 1) % dims)).2) := by
  obtain ⟨h1, h2, h3, h4, h5, h6⟩ := part_ok (le d) l (pick l.length ks).1 (pick_lt _ hl _) p hp
  generalize hr : part (le d) l (pick l.length ks).1 = r at h1 h2 h3 h4 h5 h6
  obtain ⟨m, i⟩ := r
  simp only at h1 h2 h3 h4 h5 h6
  refine ⟨m, i, rfl, h1, h2, h3, h4, ?_, ?_, ?_⟩
  · intro x hx
    obtain ⟨j, hj, e⟩ := List.mem_iff_getElem.1 hx
    rw [List.length_take] at hj
    refine h5 j x (by omega) ?_
    rw [List.getElem_take] at e
    rw [← e]; exact List.getElem?_eq_getElem _
  · intro x hx
    obtain ⟨j, hj, e⟩ := List.mem_iff_getElem.1 hx
    rw [List.length_drop] at hj
    refine h6 (i + 1 + j) x (by omega) ?_
    rw [List.getElem_drop] at e
    rw [← e]; exact List.getElem?_eq_getElem _
  · conv => lhs; unfold build
    rw [if_neg (by omega)]
    simp only [hr, h4]

theorem build_all (le : Nat → α → α → Bool) (dims : Nat) (hd : 0 < dims) : ∀ (n : Nat) (l : List α) (ks : List Nat) (d : Nat), l.length ≤ n → d < dims →
    (build le dims n l ks d).1.all.Perm l ∧ (build le dims n l ks d).1.Ord le ∧ (build le dims n l ks d).1.Each (fun _ d => d < dims) := by
  intro n
  induction n with
  | zero => intro l ks d hl hdd
            have : l = [] := List.length_eq_zero_iff.1 (by omega)
            subst this; unfold build; exact ⟨List.Perm.refl _, trivial, trivial⟩
  | succ n ih =>
    intro l ks d hl hdd
    by_cases h0 : l.length = 0
    · have : l = [] := List.length_eq_zero_iff.1 h0
      subst this; unfold build; rw [if_pos (by simp)]; exact ⟨List.Perm.refl _, trivial, trivial⟩
    · have hk := pick_lt l.length (by omega) ks
      obtain ⟨m, i, hp, e1, e2, e3, e4, e5, e6, e7⟩ := build_node le dims n l ks d (by omega) _ (List.getElem?_eq_getElem hk)
      rw [e7]
      have hn := Nat.mod_lt (d + 1) hd
      obtain ⟨a1, a2, a3⟩ := ih (m.take i) (pick l.length ks).2 ((d + 1) % dims) (by rw [List.length_take]; omega) hn
      obtain ⟨b1, b2, b3⟩ := ih (m.drop (i + 1)) (build le dims n (m.take i) (pick l.length ks).2 ((d + 1) % dims)).2 ((d + 1) % dims) (by rw [List.length_drop]; omega) hn
      refine ⟨?_, ⟨fun x hx => e5 x (a1.mem_iff.1 hx), fun x hx => e6 x (b1.mem_iff.1 hx), a2, b2⟩, hdd, a3, b3⟩
      simp only [T.all]
      have h := (a1.append (b1.cons l[(pick l.length ks).1]))
      rw [split_at e4] at h
      exact h.trans e2

/-- insert. -/
def ins (le : Nat → α → α → Bool) (dims : Nat) (p : α) : Nat → T α → T α
  | d, .nil => .node p d .nil .nil
  | _, .node q pl l r => if le pl p q then .node q pl (ins le dims p ((pl + 1) % dims) l) r else .node q pl l (ins le dims p ((pl + 1) % dims) r)

def T.rootIs (p : α) : T α → Prop
  | .nil => False
  | .node q _ _ _ => q = p

theorem ins_root (le : Nat → α → α → Bool) (dims : Nat) (p q : α) (d : Nat) (t : T α) (h : t.rootIs q) : (ins le dims p d t).rootIs q := by
  cases t with
  | nil => exact h.elim
  | node a pl l r => unfold ins; split <;> exact h

/-- All inserted. -/
def inss (le : Nat → α → α → Bool) (dims : Nat) (t : T α) (ps : List α) : T α := ps.foldl (fun t p => ins le dims p 0 t) t

theorem inss_root (le : Nat → α → α → Bool) (dims : Nat) (q : α) : ∀ (ps : List α) (t : T α), t.rootIs q → (inss le dims t ps).rootIs q := by
  intro ps
  induction ps with
  | nil => intro t h; exact h
  | cons p ps ih => intro t h; exact ih _ (ins_root le dims p q 0 t h)

theorem build_root (le : Nat → α → α → Bool) (dims n : Nat) (l : List α) (ks : List Nat) (hl : 0 < l.length) (p : α) (hp : l[(pick l.length ks).1]? = some p) : (build le dims (n + 1) l ks 0).1.rootIs p := by
  obtain ⟨m, i, _, _, _, _, _, _, _, e7⟩ := build_node le dims n l ks 0 hl p hp
  rw [e7]; rfl

end Lox.KB
