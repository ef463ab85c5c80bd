/- The search in a k-d tree, in plain Lean. Conditions: none. -/
import Derived.Test.YtmeooadgdagiiaaTbPlain2
namespace Lox.KB
variable {α : Type}

def oltI : Option Int → Option Int → Bool
  | none, _ => false
  | some _, none => true
  | some a, some b => decide (a < b)

def ominI (a b : Option Int) : Option Int := if oltI a b then a else b

/-- search: z x d is x's number on plane d, sq the squared distance from q. -/
def srch (z : α → Nat → Int) (zq : Nat → Int) (sq : α → Int) : T α → Option Int → Option α × Option Int
  | .nil, _ => (none, none)
  | .node p pl l r, D =>
    let c := zq pl - z p pl
    let D1 := ominI D (some (sq p))
    if c ≤ 0 then
      let a := srch z zq sq l D1
      let s1 := if oltI a.2 D1 then a else (some p, D1)
      if oltI (some (c * c)) s1.2 then
        let b := srch z zq sq r s1.2
        if oltI b.2 s1.2 then b else s1
      else s1
    else
      let a := srch z zq sq r D1
      let s1 := if oltI a.2 D1 then a else (some p, D1)
      if oltI (some (c * c)) s1.2 then
        let b := srch z zq sq l s1.2
        if oltI b.2 s1.2 then b else s1
      else s1

/-- a is at most b. -/
def oleI (a b : Option Int) : Prop := oltI b a = false

theorem oleI_refl (a : Option Int) : oleI a a := by cases a <;> simp [oleI, oltI]
theorem oleI_trans {a b c : Option Int} (h : oleI a b) (k : oleI b c) : oleI a c := by
  cases a <;> cases b <;> cases c <;> simp [oleI, oltI] at h k ⊢
  omega
theorem oltI_le {a b : Option Int} (h : oltI a b = true) : oleI a b := by
  cases a <;> cases b <;> simp [oleI, oltI] at h ⊢
  omega
theorem oltI_trans {a b c : Option Int} (h : oleI a b) (k : oltI b c = true) : oltI a c = true := by
  cases a <;> cases b <;> cases c <;> simp [oleI, oltI] at h k ⊢
  omega
theorem ominI_le (a b : Option Int) : oleI (ominI a b) a ∧ oleI (ominI a b) b ∧ (oltI (ominI a b) a = true → ominI a b = b) := by
  unfold ominI
  by_cases h : oltI a b = true
  · rw [if_pos h]
    refine ⟨oleI_refl _, oltI_le h, fun k => ?_⟩
    cases a <;> simp [oltI] at k
  · rw [if_neg h]
    exact ⟨by simpa [oleI] using h, oleI_refl _, fun _ => rfl⟩

/-- What a search tells: at most D, at most each point's; and, if it is less than D, that of the point that it names. -/
structure Srch (sq : α → Int) (l : List α) (D : Option Int) (s : Option α × Option Int) : Prop where
  le : oleI s.2 D
  all : ∀ x ∈ l, oleI s.2 (some (sq x))
  is : oltI s.2 D = true → ∃ x ∈ l, s.1 = some x ∧ s.2 = some (sq x)

/-- What a search below a node tells, whatever D is. -/
def SubI (sq : α → Int) (l : List α) (D : Option Int) (a : Option α × Option Int) : Prop :=
  (∀ x ∈ l, oleI a.2 (some (sq x))) ∧ (oltI a.2 D = true → ∃ x ∈ l, a.1 = some x ∧ a.2 = some (sq x))

theorem oleI_of_not {a b c : Option Int} (h : ¬ oltI a b = true) (k : oleI a c) : oleI b c := oleI_trans (a := b) (b := a) (by simpa [oleI] using h) k

theorem srch_pick {sq : α → Int} {l m : List α} {D : Option Int} {s a : Option α × Option Int} (h : Srch sq l D s) (ha : SubI sq m s.2 a) : Srch sq (l ++ m) D (if oltI a.2 s.2 then a else s) := by
  by_cases hc : oltI a.2 s.2 = true
  · rw [if_pos hc]
    refine ⟨oleI_trans (oltI_le hc) h.le, fun x hx => ?_, fun _ => ?_⟩
    · rcases List.mem_append.1 hx with hx | hx
      · exact oleI_trans (oltI_le hc) (h.all x hx)
      · exact ha.1 x hx
    · obtain ⟨x, hx, e⟩ := ha.2 hc
      exact ⟨x, List.mem_append.2 (.inr hx), e⟩
  · rw [if_neg hc]
    refine ⟨h.le, fun x hx => ?_, fun hk => ?_⟩
    · rcases List.mem_append.1 hx with hx | hx
      · exact h.all x hx
      · exact oleI_of_not hc (ha.1 x hx)
    · obtain ⟨x, hx, e⟩ := h.is hk
      exact ⟨x, List.mem_append.2 (.inl hx), e⟩

theorem srch_cut {sq : α → Int} {l m : List α} {D : Option Int} {s : Option α × Option Int} (h : Srch sq l D s) (hm : ∀ x ∈ m, oleI s.2 (some (sq x))) : Srch sq (l ++ m) D s := by
  refine ⟨h.le, fun x hx => ?_, fun hk => ?_⟩
  · rcases List.mem_append.1 hx with hx | hx
    · exact h.all x hx
    · exact hm x hx
  · obtain ⟨x, hx, e⟩ := h.is hk
    exact ⟨x, List.mem_append.2 (.inl hx), e⟩

theorem Srch.sub {sq : α → Int} {l m : List α} {D : Option Int} {s : Option α × Option Int} (h : Srch sq l D s) (hm : ∀ x, x ∈ m ↔ x ∈ l) : SubI sq m D s :=
  ⟨fun x hx => h.all x ((hm x).1 hx), fun hk => by obtain ⟨x, hx, e⟩ := h.is hk; exact ⟨x, (hm x).2 hx, e⟩⟩

theorem sq_mono {a b : Int} (h0 : 0 ≤ a) (h : a ≤ b) : a * a ≤ b * b := Int.mul_le_mul h h h0 (by omega)

theorem srch_ok (le : Nat → α → α → Bool) (dims : Nat) (z : α → Nat → Int) (zq : Nat → Int) (sq : α → Int) (G : α → Prop) (hle : ∀ d x p, G x → G p → d < dims → (le d x p = true ↔ z x d ≤ z p d)) (hsq : ∀ x d, G x → d < dims → (zq d - z x d) * (zq d - z x d) ≤ sq x) :
    ∀ (t : T α) (D : Option Int), (∀ x ∈ t.all, G x) → t.Ord le → t.Each (fun _ d => d < dims) → SubI sq t.all D (srch z zq sq t D) := by
  intro t
  induction t with
  | nil => intro D _ _ _; exact ⟨(fun x hx => by cases hx), (fun h => by cases h)⟩
  | node p pl l r ihl ihr =>
    intro D hG hO hE
    have gp : G p := hG p (by simp [T.all])
    have gl : ∀ x ∈ l.all, G x := fun x hx => hG x (by simp [T.all, hx])
    have gr : ∀ x ∈ r.all, G x := fun x hx => hG x (by simp [T.all, hx])
    obtain ⟨h1, h2, h3, h4⟩ := hO
    obtain ⟨e1, e2, e3⟩ := hE
    obtain ⟨m1, m2, m3⟩ := ominI_le D (some (sq p))
    have s0 : Srch sq [p] D (some p, ominI D (some (sq p))) := ⟨m1, fun x hx => by rw [List.mem_singleton.1 hx]; exact m2, fun h => ⟨p, List.mem_singleton.2 rfl, rfl, m3 h⟩⟩
    simp only [srch]
    by_cases hc : zq pl - z p pl ≤ 0
    · rw [if_pos hc]
      have s1 := srch_pick s0 (ihl (ominI D (some (sq p))) gl h3 e2)
      generalize (if oltI (srch z zq sq l (ominI D (some (sq p)))).2 (some p, ominI D (some (sq p))).2 = true then srch z zq sq l (ominI D (some (sq p))) else (some p, ominI D (some (sq p)))) = s at s1
      have hmem : ∀ x, x ∈ (T.node p pl l r).all ↔ x ∈ ([p] ++ l.all) ++ r.all := fun x => by simp [T.all]; constructor <;> (rintro (h | h | h) <;> simp [h])
      by_cases hk : oltI (some ((zq pl - z p pl) * (zq pl - z p pl))) s.2 = true
      · rw [if_pos hk]
        exact (srch_pick s1 (ihr s.2 gr h4 e3)).sub hmem
      · rw [if_neg hk]
        refine (srch_cut s1 fun x hx => ?_).sub hmem
        refine oleI_of_not hk ?_
        have hx2 : ¬ z x pl ≤ z p pl := fun h => by have := h2 x hx; rw [(hle pl x p (gr x hx) gp e1).2 h] at this; cases this
        have h5 := hsq x pl (gr x hx) e1
        have h6 := sq_mono (a := z p pl - zq pl) (b := z x pl - zq pl) (by omega) (by omega)
        have h7 : (zq pl - z p pl) * (zq pl - z p pl) = (z p pl - zq pl) * (z p pl - zq pl) := by rw [← Int.neg_mul_neg]; congr 1 <;> omega
        have h8 : (zq pl - z x pl) * (zq pl - z x pl) = (z x pl - zq pl) * (z x pl - zq pl) := by rw [← Int.neg_mul_neg]; congr 1 <;> omega
        simp only [oleI, oltI, decide_eq_false_iff_not]
        omega
    · rw [if_neg hc]
      have s1 := srch_pick s0 (ihr (ominI D (some (sq p))) gr h4 e3)
      generalize (if oltI (srch z zq sq r (ominI D (some (sq p)))).2 (some p, ominI D (some (sq p))).2 = true then srch z zq sq r (ominI D (some (sq p))) else (some p, ominI D (some (sq p)))) = s at s1
      have hmem : ∀ x, x ∈ (T.node p pl l r).all ↔ x ∈ ([p] ++ r.all) ++ l.all := fun x => by simp [T.all]; constructor <;> (rintro (h | h | h) <;> simp [h])
      by_cases hk : oltI (some ((zq pl - z p pl) * (zq pl - z p pl))) s.2 = true
      · rw [if_pos hk]
        exact (srch_pick s1 (ihl s.2 gl h3 e2)).sub hmem
      · rw [if_neg hk]
        refine (srch_cut s1 fun x hx => ?_).sub hmem
        refine oleI_of_not hk ?_
        have hx2 := (hle pl x p (gl x hx) gp e1).1 (h1 x hx)
        have h5 := hsq x pl (gl x hx) e1
        have h6 := sq_mono (a := zq pl - z p pl) (b := zq pl - z x pl) (by omega) (by omega)
        simp only [oleI, oltI, decide_eq_false_iff_not]
        omega

/-- Inserting keeps the order. -/
theorem ins_ord (le : Nat → α → α → Bool) (dims : Nat) (p : α) : ∀ (t : T α) (d : Nat), t.Ord le → (ins le dims p d t).Ord le := by
  intro t
  induction t with
  | nil => intro d _; exact ⟨(fun x hx => by cases hx), (fun x hx => by cases hx), trivial, trivial⟩
  | node q pl l r ihl ihr =>
    intro d h
    obtain ⟨h1, h2, h3, h4⟩ := h
    unfold ins
    split
    · rename_i hc
      refine ⟨fun x hx => ?_, h2, ihl _ h3, h4⟩
      rcases List.mem_cons.1 ((ins_perm le dims p l ((pl + 1) % dims)).mem_iff.1 hx) with rfl | hx
      · exact hc
      · exact h1 x hx
    · rename_i hc
      refine ⟨h1, fun x hx => ?_, h3, ihr _ h4⟩
      rcases List.mem_cons.1 ((ins_perm le dims p r ((pl + 1) % dims)).mem_iff.1 hx) with rfl | hx
      · simpa using hc
      · exact h2 x hx

theorem inss_ord (le : Nat → α → α → Bool) (dims : Nat) : ∀ (ps : List α) (t : T α), t.Ord le → (inss le dims t ps).Ord le := by
  intro ps
  induction ps with
  | nil => intro t h; exact h
  | cons p ps ih => intro t h; exact ih _ (ins_ord le dims p t 0 h)

/-- From no distance on, the search finds the least one. -/
theorem srch_least (le : Nat → α → α → Bool) (dims : Nat) (z : α → Nat → Int) (zq : Nat → Int) (sq : α → Int) (G : α → Prop) (hle : ∀ d x p, G x → G p → d < dims → (le d x p = true ↔ z x d ≤ z p d)) (hsq : ∀ x d, G x → d < dims → (zq d - z x d) * (zq d - z x d) ≤ sq x)
    (t : T α) (hG : ∀ x ∈ t.all, G x) (ho : t.Ord le) (he : t.Each (fun _ d => d < dims)) {y : α} (hy : y ∈ t.all) : ∃ x ∈ t.all, (srch z zq sq t none).1 = some x ∧ (srch z zq sq t none).2 = some (sq x) ∧ ∀ y ∈ t.all, sq x ≤ sq y := by
  obtain ⟨h1, h2⟩ := srch_ok le dims z zq sq G hle hsq t none hG ho he
  have h3 := h1 y hy
  have h4 : oltI (srch z zq sq t none).2 none = true := by
    cases hs : (srch z zq sq t none).2 with
    | none => rw [hs] at h3; simp [oleI, oltI] at h3
    | some a => rfl
  obtain ⟨x, hx, e1, e2⟩ := h2 h4
  refine ⟨x, hx, e1, e2, fun y hy => ?_⟩
  have := h1 y hy
  rw [e2] at this
  simpa [oleI, oltI] using this
end Lox.KB
