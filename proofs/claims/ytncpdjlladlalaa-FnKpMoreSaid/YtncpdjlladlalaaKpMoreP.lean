/- The plain law of FnKpMore. Conditions: none. -/
import Derived.Test.YtncpdjlladlalaaKpReal
import Derived.Test.YtncpdjlladlalaaKdPlain
namespace Go.Proofs.Ytncpdjlladlalaa
open Go.RowKit Lox
set_option linter.unusedVariables false

theorem reals_perm {a b : List Nat} (h : a.Perm b) : (reals a).Perm (reals b) := h.filter _

theorem reals_all {a : List Nat} (h : ∀ d ∈ a, fk NEG1 < fk d) : reals a = a := List.filter_eq_self.2 fun d hd => decide_eq_true (h d hd)

theorem reals_mark {a : List Nat} (h : ∀ d ∈ a, fk NEG1 < fk d) : reals (NEG1 :: a) = a := by
  have := reals_all h
  unfold reals at *
  rw [List.filter_cons_of_neg (by simp), this]

theorem kept_reals {n : Nat} {l : List El} {ds y s : List Nat} (h : Kept n l ds) (hd : ∀ d ∈ ds, fk NEG1 < fk d) (hy : y.Perm (reals (l.map shown))) (hyi : Inc y) (hs : s.Perm ds) (hsi : Inc s) :
    y.map fk = (s.take (min n s.length)).map fk ∧ y.length = min n s.length ∧ ∀ x ∈ y, x ∈ ds := by
  have hsl : s.length = ds.length := hs.length_eq
  rcases Nat.lt_or_ge ds.length n with hf | hf
  · have h1 : y.Perm ds := by
      have := hy.trans (reals_perm ((h.few hf).map shown))
      have e : (none :: ds.map some).map shown = NEG1 :: ds := by simp [shown, Function.comp_def]
      rw [e, reals_mark hd] at this
      exact this
    rw [List.take_of_length_le (by omega)]
    exact ⟨inc_same hyi hsi ((h1.trans hs.symm).map fk), by rw [h1.length_eq]; omega, fun x hx => h1.mem_iff.1 hx⟩
  · obtain ⟨ks, rest, hp, hk, hr, hle⟩ := h.full hf
    have e : (ks.map some).map shown = ks := by simp [shown, Function.comp_def]
    have hks : ∀ d ∈ ks, d ∈ ds := fun d hdk => hr.mem_iff.1 (List.mem_append.2 (.inl hdk))
    have h0 : (l.map shown).Perm ks := by have := hp.map shown; rw [e] at this; exact this
    have h1 : y.Perm ks := by
      have := hy.trans (reals_perm h0)
      rw [reals_all (fun d hdk => hd d (hks d hdk))] at this
      exact this
    have := h.told (fun d h => Int.le_of_lt (hd d h)) (h1.trans h0.symm) hyi hs hsi
    rw [if_neg (by omega)] at this
    exact ⟨this, by rw [h1.length_eq, hk]; omega, fun x hx => hks x (h1.mem_iff.1 hx)⟩

/-- What a keeper of n holds is the beginning of what a keeper of n + 1 holds. -/
theorem more1 {n : Nat} {l1 l2 : List El} {ds y1 y2 : List Nat} (h1 : Kept n l1 ds) (h2 : Kept (n + 1) l2 ds) (hd : ∀ d ∈ ds, fk NEG1 < fk d) (h0 : 0 < ds.length)
    (p1 : y1.Perm (reals (l1.map shown))) (i1 : Inc y1) (p2 : y2.Perm (reals (l2.map shown))) (i2 : Inc y2) :
    y1.length ≤ y2.length ∧ 0 < y2.length ∧ y1.map fk = (y2.take y1.length).map fk ∧ (∀ x ∈ y1, x ∈ ds) ∧ (∀ x ∈ y2, x ∈ ds) := by
  obtain ⟨s, hs, hsi⟩ := exists_inc ds
  have hsl := hs.length_eq
  obtain ⟨a1, b1, c1⟩ := kept_reals h1 hd p1 i1 hs hsi
  obtain ⟨a2, b2, c2⟩ := kept_reals h2 hd p2 i2 hs hsi
  refine ⟨by omega, by omega, ?_, c1, c2⟩
  rw [List.map_take, a2, a1, ← List.map_take, List.take_take, b1]
  congr 2
  omega

theorem more2 {n S : Nat} {l2 l3 : List El} {ds y2 y3 : List Nat} (h2 : Kept n l2 ds) (h3 : D.KeptIn S l3 ds) (hd : ∀ d ∈ ds, fk NEG1 < fk d)
    (p2 : y2.Perm (reals (l2.map shown))) (i2 : Inc y2) (p3 : y3.Perm (reals (l3.map shown))) (i3 : Inc y3) (hS : y2[y2.length - 1]? = some S) :
    y2.length ≤ y3.length ∧ y2.map fk = (y3.take y2.length).map fk ∧ (∀ x ∈ y3, x ∈ ds) := by
  obtain ⟨s, hs, hsi⟩ := exists_inc ds
  obtain ⟨a2, b2, c2⟩ := kept_reals h2 hd p2 i2 hs hsi
  obtain ⟨p, hp⟩ : ∃ p, p = min n s.length := ⟨_, rfl⟩
  rw [← hp] at a2 b2
  have hw : ∀ d ∈ D.within S ds, fk NEG1 < fk d := fun d h => hd d (List.mem_filter.1 h).1
  have q3 : y3.Perm (D.within S ds) := by
    have := p3.trans (reals_perm (h3.perm.map shown))
    have e : (none :: (D.within S ds).map some).map shown = NEG1 :: D.within S ds := by simp [shown, Function.comp_def]
    rw [e, reals_mark hw] at this
    exact this
  have hp0 : 0 < p := by
    rcases Nat.eq_zero_or_pos p with h | h
    · rw [List.getElem?_eq_none (by omega)] at hS; cases hS
    · exact h
  have hps : p ≤ s.length := by omega
  -- the bound is as great as the last of the first p
  have hlast : ∀ x ∈ s.take p, fk x ≤ fk S := fun x hx => by
    have hx2 : fk x ∈ y2.map fk := by rw [a2]; exact List.mem_map.2 ⟨x, hx, rfl⟩
    obtain ⟨z, hz, e⟩ := List.mem_map.1 hx2
    obtain ⟨i, hi, rfl⟩ := List.getElem_of_mem hz
    rw [← e]
    obtain ⟨hl, eS⟩ := List.getElem?_eq_some_iff.1 hS
    rw [← eS]
    rcases Nat.lt_or_ge i (y2.length - 1) with h | h
    · exact List.pairwise_iff_getElem.1 i2 i (y2.length - 1) hi hl h
    · have : i = y2.length - 1 := by omega
      subst this
      exact Int.le_refl _
  have e3 : y3.map fk = (D.within S s).map fk := inc_same i3 (hsi.filter _) ((q3.trans ((hs.symm.filter _))).map fk)
  have e4 : D.within S s = s.take p ++ D.within S (s.drop p) := by
    conv => lhs; rw [← List.take_append_drop p s]
    unfold D.within
    rw [List.filter_append, List.filter_eq_self.2 (fun x hx => decide_eq_true (hlast x hx))]
  have hl3 : y3.length = (D.within S s).length := by have := congrArg List.length e3; simpa using this
  refine ⟨?_, ?_, fun x hx => (List.mem_filter.1 (q3.mem_iff.1 hx)).1⟩
  · rw [hl3, e4, List.length_append, List.length_take, b2]; omega
  · rw [List.map_take, e3, ← List.map_take, e4, b2, List.take_append_of_le_length (by rw [List.length_take]; omega), List.take_of_length_le (by rw [List.length_take]; omega), a2]
end Go.Proofs.Ytncpdjlladlalaa
