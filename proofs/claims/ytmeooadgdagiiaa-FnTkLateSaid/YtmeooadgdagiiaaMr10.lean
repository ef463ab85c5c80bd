/- Steps of a proof, one behind another: The search in a k-d tree, in plain Lean. The walks of Distance and SquareN over points of whole numbers. math.Min and math.Max over words of whole numbers, to the word. The walks of withNumber and SquaresTo. Boxes in memory, and the walk of Extend. Conditions: as each theorem says. -/
import Derived.Test.YtmeooadgdagiiaaMr9
import Derived.Deep.QuietTactic

namespace Lox.KB
variable {α : Type}

def oltI : Option Int → Option Int → Bool
  | none, _ => false
  | some _, none => true
  | some a, some b => decide (a < b)

def ominI (a b : Option Int) : Option Int := if oltI a b then a else b

/-- search: z x d is x's number on plane d, sq the squared distance from q. -/
def srch (z : α → Nat → Int) (zq : Nat → Int) (sq : α → Int) : T α → Option Int → Option α × Option Int
  | .nil, _ => (none, none)
  | .node p pl l r, D =>
    let c := zq pl - z p pl
    let D1 := ominI D (some (sq p))
    if c ≤ 0 then
      let a := srch z zq sq l D1
      let s1 := if oltI a.2 D1 then a else (some p, D1)
      if oltI (some (c * c)) s1.2 then
        let b := srch z zq sq r s1.2
        if oltI b.2 s1.2 then b else s1
      else s1
    else
      let a := srch z zq sq r D1
      let s1 := if oltI a.2 D1 then a else (some p, D1)
      if oltI (some (c * c)) s1.2 then
        let b := srch z zq sq l s1.2
        if oltI b.2 s1.2 then b else s1
      else s1

/-- a is at most b. -/
def oleI (a b : Option Int) : Prop := oltI b a = false

theorem oleI_refl (a : Option Int) : oleI a a := by cases a <;> simp [oleI, oltI]
theorem oleI_trans {a b c : Option Int} (h : oleI a b) (k : oleI b c) : oleI a c := by
  cases a <;> cases b <;> cases c <;> simp [oleI, oltI] at h k ⊢
  omega
theorem oltI_le {a b : Option Int} (h : oltI a b = true) : oleI a b := by
  cases a <;> cases b <;> simp [oleI, oltI] at h ⊢
  omega
theorem oltI_trans {a b c : Option Int} (h : oleI a b) (k : oltI b c = true) : oltI a c = true := by
  cases a <;> cases b <;> cases c <;> simp [oleI, oltI] at h k ⊢
  omega
theorem ominI_le (a b : Option Int) : oleI (ominI a b) a ∧ oleI (ominI a b) b ∧ (oltI (ominI a b) a = true → ominI a b = b) := by
  unfold ominI
  by_cases h : oltI a b = true
  · rw [if_pos h]
    refine ⟨oleI_refl _, oltI_le h, fun k => ?_⟩
    cases a <;> simp [oltI] at k
  · rw [if_neg h]
    exact ⟨by simpa [oleI] using h, oleI_refl _, fun _ => rfl⟩

/-- What a search tells: at most D, at most each point's; and, if it is less than D, that of the point that it names. -/
structure Srch (sq : α → Int) (l : List α) (D : Option Int) (s : Option α × Option Int) : Prop where
  le : oleI s.2 D
  all : ∀ x ∈ l, oleI s.2 (some (sq x))
  is : oltI s.2 D = true → ∃ x ∈ l, s.1 = some x ∧ s.2 = some (sq x)

/-- What a search below a node tells, whatever D is. -/
def SubI (sq : α → Int) (l : List α) (D : Option Int) (a : Option α × Option Int) : Prop :=
  (∀ x ∈ l, oleI a.2 (some (sq x))) ∧ (oltI a.2 D = true → ∃ x ∈ l, a.1 = some x ∧ a.2 = some (sq x))

theorem oleI_of_not {a b c : Option Int} (h : ¬ oltI a b = true) (k : oleI a c) : oleI b c := oleI_trans (a := b) (b := a) (by simpa [oleI] using h) k

theorem srch_pick {sq : α → Int} {l m : List α} {D : Option Int} {s a : Option α × Option Int} (h : Srch sq l D s) (ha : SubI sq m s.2 a) : Srch sq (l ++ m) D (if oltI a.2 s.2 then a else s) := by
  by_cases hc : oltI a.2 s.2 = true
  · rw [if_pos hc]
    refine ⟨oleI_trans (oltI_le hc) h.le, fun x hx => ?_, fun _ => ?_⟩
    · rcases List.mem_append.1 hx with hx | hx
      · exact oleI_trans (oltI_le hc) (h.all x hx)
      · exact ha.1 x hx
    · obtain ⟨x, hx, e⟩ := ha.2 hc
      exact ⟨x, List.mem_append.2 (.inr hx), e⟩
  · rw [if_neg hc]
    refine ⟨h.le, fun x hx => ?_, fun hk => ?_⟩
    · rcases List.mem_append.1 hx with hx | hx
      · exact h.all x hx
      · exact oleI_of_not hc (ha.1 x hx)
    · obtain ⟨x, hx, e⟩ := h.is hk
      exact ⟨x, List.mem_append.2 (.inl hx), e⟩

theorem srch_cut {sq : α → Int} {l m : List α} {D : Option Int} {s : Option α × Option Int} (h : Srch sq l D s) (hm : ∀ x ∈ m, oleI s.2 (some (sq x))) : Srch sq (l ++ m) D s := by
  refine ⟨h.le, fun x hx => ?_, fun hk => ?_⟩
  · rcases List.mem_append.1 hx with hx | hx
    · exact h.all x hx
    · exact hm x hx
  · obtain ⟨x, hx, e⟩ := h.is hk
    exact ⟨x, List.mem_append.2 (.inl hx), e⟩

theorem Srch.sub {sq : α → Int} {l m : List α} {D : Option Int} {s : Option α × Option Int} (h : Srch sq l D s) (hm : ∀ x, x ∈ m ↔ x ∈ l) : SubI sq m D s :=
  ⟨fun x hx => h.all x ((hm x).1 hx), fun hk => by obtain ⟨x, hx, e⟩ := h.is hk; exact ⟨x, (hm x).2 hx, e⟩⟩

theorem sq_mono {a b : Int} (h0 : 0 ≤ a) (h : a ≤ b) : a * a ≤ b * b := Int.mul_le_mul h h h0 (by omega)

theorem srch_ok (le : Nat → α → α → Bool) (dims : Nat) (z : α → Nat → Int) (zq : Nat → Int) (sq : α → Int) (G : α → Prop) (hle : ∀ d x p, G x → G p → d < dims → (le d x p = true ↔ z x d ≤ z p d)) (hsq : ∀ x d, G x → d < dims → (zq d - z x d) * (zq d - z x d) ≤ sq x) :
    ∀ (t : T α) (D : Option Int), (∀ x ∈ t.all, G x) → t.Ord le → t.Each (fun _ d => d < dims) → SubI sq t.all D (srch z zq sq t D) := by
  intro t
  induction t with
  | nil => intro D _ _ _; exact ⟨(fun x hx => by cases hx), (fun h => by cases h)⟩
  | node p pl l r ihl ihr =>
    intro D hG hO hE
    have gp : G p := hG p (by simp [T.all])
    have gl : ∀ x ∈ l.all, G x := fun x hx => hG x (by simp [T.all, hx])
    have gr : ∀ x ∈ r.all, G x := fun x hx => hG x (by simp [T.all, hx])
    obtain ⟨h1, h2, h3, h4⟩ := hO
    obtain ⟨e1, e2, e3⟩ := hE
    obtain ⟨m1, m2, m3⟩ := ominI_le D (some (sq p))
    have s0 : Srch sq [p] D (some p, ominI D (some (sq p))) := ⟨m1, fun x hx => by rw [List.mem_singleton.1 hx]; exact m2, fun h => ⟨p, List.mem_singleton.2 rfl, rfl, m3 h⟩⟩
    simp only [srch]
    by_cases hc : zq pl - z p pl ≤ 0
    · rw [if_pos hc]
      have s1 := srch_pick s0 (ihl (ominI D (some (sq p))) gl h3 e2)
      generalize (if oltI (srch z zq sq l (ominI D (some (sq p)))).2 (some p, ominI D (some (sq p))).2 = true then srch z zq sq l (ominI D (some (sq p))) else (some p, ominI D (some (sq p)))) = s at s1
      have hmem : ∀ x, x ∈ (T.node p pl l r).all ↔ x ∈ ([p] ++ l.all) ++ r.all := fun x => by simp [T.all]; constructor <;> (rintro (h | h | h) <;> simp [h])
      by_cases hk : oltI (some ((zq pl - z p pl) * (zq pl - z p pl))) s.2 = true
      · rw [if_pos hk]
        exact (srch_pick s1 (ihr s.2 gr h4 e3)).sub hmem
      · rw [if_neg hk]
        refine (srch_cut s1 fun x hx => ?_).sub hmem
        refine oleI_of_not hk ?_
        have hx2 : ¬ z x pl ≤ z p pl := fun h => by have := h2 x hx; rw [(hle pl x p (gr x hx) gp e1).2 h] at this; cases this
        have h5 := hsq x pl (gr x hx) e1
        have h6 := sq_mono (a := z p pl - zq pl) (b := z x pl - zq pl) (by omega) (by omega)
        have h7 : (zq pl - z p pl) * (zq pl - z p pl) = (z p pl - zq pl) * (z p pl - zq pl) := by rw [← Int.neg_mul_neg]; congr 1 <;> omega
        have h8 : (zq pl - z x pl) * (zq pl - z x pl) = (z x pl - zq pl) * (z x pl - zq pl) := by rw [← Int.neg_mul_neg]; congr 1 <;> omega
        simp only [oleI, oltI, decide_eq_false_iff_not]
        omega
    · rw [if_neg hc]
      have s1 := srch_pick s0 (ihr (ominI D (some (sq p))) gr h4 e3)
      generalize (if oltI (srch z zq sq r (ominI D (some (sq p)))).2 (some p, ominI D (some (sq p))).2 = true then srch z zq sq r (ominI D (some (sq p))) else (some p, ominI D (some (sq p)))) = s at s1
      have hmem : ∀ x, x ∈ (T.node p pl l r).all ↔ x ∈ ([p] ++ r.all) ++ l.all := fun x => by simp [T.all]; constructor <;> (rintro (h | h | h) <;> simp [h])
      by_cases hk : oltI (some ((zq pl - z p pl) * (zq pl - z p pl))) s.2 = true
      · rw [if_pos hk]
        exact (srch_pick s1 (ihl s.2 gl h3 e2)).sub hmem
      · rw [if_neg hk]
        refine (srch_cut s1 fun x hx => ?_).sub hmem
        refine oleI_of_not hk ?_
        have hx2 := (hle pl x p (gl x hx) gp e1).1 (h1 x hx)
        have h5 := hsq x pl (gl x hx) e1
        have h6 := sq_mono (a := zq pl - z p pl) (b := zq pl - z x pl) (by omega) (by omega)
        simp only [oleI, oltI, decide_eq_false_iff_not]
        omega

/-- Inserting keeps the order. -/
theorem ins_ord (le : Nat → α → α → Bool) (dims : Nat) (p : α) : ∀ (t : T α) (d : Nat), t.Ord le → (ins le dims p d t).Ord le := by
  intro t
  induction t with
  | nil => intro d _; exact ⟨(fun x hx => by cases hx), (fun x hx => by cases hx), trivial, trivial⟩
  | node q pl l r ihl ihr =>
    intro d h
    obtain ⟨h1, h2, h3, h4⟩ := h
    unfold ins
    split
    · rename_i hc
      refine ⟨fun x hx => ?_, h2, ihl _ h3, h4⟩
      rcases List.mem_cons.1 ((ins_perm le dims p l ((pl + 1) % dims)).mem_iff.1 hx) with rfl | hx
      · exact hc
      · exact h1 x hx
    · rename_i hc
      refine ⟨h1, fun x hx => ?_, h3, ihr _ h4⟩
      rcases List.mem_cons.1 ((ins_perm le dims p r ((pl + 1) % dims)).mem_iff.1 hx) with rfl | hx
      · simpa using hc
      · exact h2 x hx

theorem inss_ord (le : Nat → α → α → Bool) (dims : Nat) : ∀ (ps : List α) (t : T α), t.Ord le → (inss le dims t ps).Ord le := by
  intro ps
  induction ps with
  | nil => intro t h; exact h
  | cons p ps ih => intro t h; exact ih _ (ins_ord le dims p t 0 h)

/-- From no distance on, the search finds the least one. -/
theorem srch_least (le : Nat → α → α → Bool) (dims : Nat) (z : α → Nat → Int) (zq : Nat → Int) (sq : α → Int) (G : α → Prop) (hle : ∀ d x p, G x → G p → d < dims → (le d x p = true ↔ z x d ≤ z p d)) (hsq : ∀ x d, G x → d < dims → (zq d - z x d) * (zq d - z x d) ≤ sq x)
    (t : T α) (hG : ∀ x ∈ t.all, G x) (ho : t.Ord le) (he : t.Each (fun _ d => d < dims)) {y : α} (hy : y ∈ t.all) : ∃ x ∈ t.all, (srch z zq sq t none).1 = some x ∧ (srch z zq sq t none).2 = some (sq x) ∧ ∀ y ∈ t.all, sq x ≤ sq y := by
  obtain ⟨h1, h2⟩ := srch_ok le dims z zq sq G hle hsq t none hG ho he
  have h3 := h1 y hy
  have h4 : oltI (srch z zq sq t none).2 none = true := by
    cases hs : (srch z zq sq t none).2 with
    | none => rw [hs] at h3; simp [oleI, oltI] at h3
    | some a => rfl
  obtain ⟨x, hx, e1, e2⟩ := h2 h4
  refine ⟨x, hx, e1, e2, fun y hy => ?_⟩
  have := h1 y hy
  rw [e2] at this
  simpa [oleI, oltI] using this
end Lox.KB

namespace Lox
open Go Go.RowKit
set_option linter.unusedVariables false

theorem gd_unique {x : Nat} {n m : Int} (h : Gd 0 x n) (k : Gd 0 x m) : n = m := by
  have h1 := h.eq h
  have h2 := h.eq k
  rw [decide_eq_true rfl] at h1
  rw [h1] at h2
  exact of_decide_eq_true h2.symm

open Classical in
/-- The whole number that a word stands for. -/
noncomputable def zi (x : Nat) : Int := if h : ∃ n, Wh x n then Classical.choose h else 0

theorem zi_wh {x : Nat} (h : ∃ n, Wh x n) : Wh x (zi x) := by
  unfold zi
  rw [dif_pos h]
  exact Classical.choose_spec h

theorem zi_eq {x : Nat} {n : Int} (h : Wh x n) : zi x = n := gd_unique (zi_wh ⟨n, h⟩).1 h.1

/-- The squared distance, over the first k coordinates. -/
noncomputable def sqx (xs ys : List Nat) : Nat → Int
  | 0 => 0
  | k + 1 => sqx xs ys k + (zi (xs.getD k 0) - zi (ys.getD k 0)) * (zi (xs.getD k 0) - zi (ys.getD k 0))

theorem sqx_comm (xs ys : List Nat) (k : Nat) : sqx xs ys k = sqx ys xs k := by
  induction k with
  | zero => rfl
  | succ k ih =>
    simp only [sqx, ih]
    have : (zi (xs.getD k 0) - zi (ys.getD k 0)) * (zi (xs.getD k 0) - zi (ys.getD k 0)) = (zi (ys.getD k 0) - zi (xs.getD k 0)) * (zi (ys.getD k 0) - zi (xs.getD k 0)) := by rw [← Int.neg_mul_neg]; congr 1 <;> omega
    rw [this]

theorem sq_nn (a : Int) : 0 ≤ a * a := by
  rcases Int.le_total 0 a with h | h
  · exact Int.mul_nonneg h h
  · exact Int.mul_nonneg_of_nonpos_of_nonpos h h

theorem sq_le42 {a : Int} (h : a.natAbs ≤ 2097152) : a * a ≤ 4398046511104 := by
  have e : ((a.natAbs * a.natAbs : Nat) : Int) = a * a := Int.natAbs_mul_self
  have h2 : a.natAbs * a.natAbs ≤ 2097152 * 2097152 := Nat.mul_le_mul h h
  omega

theorem mem_getD {xs : List Nat} {k : Nat} (h : k < xs.length) : xs.getD k 0 ∈ xs := by simp [h]

theorem sqx_nn (xs ys : List Nat) (k : Nat) : 0 ≤ sqx xs ys k := by
  induction k with
  | zero => exact Int.le_refl _
  | succ k ih =>
    have := sq_nn (zi (xs.getD k 0) - zi (ys.getD k 0))
    simp only [sqx]; omega

theorem sqx_step (xs ys : List Nat) (k m : Nat) (h : k ≤ m) : sqx xs ys k ≤ sqx xs ys m := by
  induction m with
  | zero => obtain rfl : k = 0 := by omega
            exact Int.le_refl _
  | succ m ih =>
    rcases Nat.lt_or_ge k (m + 1) with h1 | h1
    · have h2 := ih (by omega)
      have := sq_nn (zi (xs.getD m 0) - zi (ys.getD m 0))
      simp only [sqx]; omega
    · obtain rfl : k = m + 1 := by omega
      exact Int.le_refl _

theorem sqx_ge (xs ys : List Nat) (d m : Nat) (h : d < m) : (zi (xs.getD d 0) - zi (ys.getD d 0)) * (zi (xs.getD d 0) - zi (ys.getD d 0)) ≤ sqx xs ys m := by
  have h1 := sqx_step xs ys (d + 1) m h
  have h2 := sqx_nn xs ys d
  simp only [sqx] at h1
  omega

theorem sqx_le (xs ys : List Nat) (hx : ∀ x ∈ xs, ∃ n, Wh x n) (hy : ∀ y ∈ ys, ∃ n, Wh y n) (k : Nat) (hkx : k ≤ xs.length) (hky : k ≤ ys.length) : sqx xs ys k ≤ 4398046511104 * k := by
  induction k with
  | zero => simp [sqx]
  | succ k ih =>
    have h1 := ih (by omega) (by omega)
    have hxk : ∃ n, Wh (xs.getD k 0) n := hx _ (mem_getD (by omega))
    have hyk : ∃ n, Wh (ys.getD k 0) n := hy _ (mem_getD (by omega))
    have ha := (zi_wh hxk).2
    have hb := (zi_wh hyk).2
    have := sq_le42 (a := zi (xs.getD k 0) - zi (ys.getD k 0)) (by omega)
    simp only [sqx]
    omega
end Lox
namespace Go.Proofs.Ytmeooadgdagiiaa
open Go.RowKit Lox
set_option linter.unusedVariables false
attribute [local go_sem] run_store_flt run_store_fn

theorem TP.gr_iff {p : TP} : p.Gr ↔ ∀ x ∈ p.xs, ∃ n, Wh x n := by
  refine ⟨fun h x hx => ?_, TP.gr_of⟩
  obtain ⟨i, hi, rfl⟩ := List.mem_iff_getElem.1 hx
  have := h i hi
  have e : p.n i = p.xs[i] := by simp [TP.n, hi]
  rw [e] at this
  exact this

/-- One step of the sum. -/
theorem sq_run {x y s : Nat} {a b t : Int} (hx : Wh x a) (hy : Wh y b) (hs : Gd 0 s t) (h0 : 0 ≤ t) (ht : t ≤ 1125899906842624) : ∃ d m r, (∀ (P : Program) (T : TypeId) (w : World), (binOp .sub T (.float .f64 x) (.float .f64 y)).run P w = .ok (.float .f64 d) w) ∧ (∀ (P : Program) (T : TypeId) (w : World), (binOp .mul T (.float .f64 d) (.float .f64 d)).run P w = .ok (.float .f64 m) w) ∧
    (∀ (P : Program) (T : TypeId) (w : World), (binOp .add T (.float .f64 s) (.float .f64 m)).run P w = .ok (.float .f64 r) w) ∧ Gd 0 r (t + (a - b) * (a - b)) := by
  have hab : (a - b).natAbs ≤ 2097152 := by have := hx.2; have := hy.2; omega
  obtain ⟨d, hd, gd⟩ := Gd.sub hx.1 hy.1 (by omega) (by omega)
  have h42 := sq_le42 hab
  have hnn := sq_nn (a - b)
  have hmul : ∃ m, Ieee.double.mul d d = some m ∧ Gd 0 m ((a - b) * (a - b)) := by
    have e : ((a - b : Int) : Rat) * p2 (-((0 : Nat) : Int)) = ((a - b : Int) : Rat) := by
      have : (-((0 : Nat) : Int)) = 0 := rfl
      rw [this, p2_zero, Rat.mul_one]
    have g1 : Is d ((a - b : Int) : Rat) := by have h := gd; unfold Gd at h; rw [e] at h; exact h
    have h := Is.mul g1 g1
    rw [← Rat.intCast_mul] at h
    obtain ⟨m, hm, im⟩ := h (rep_whole _ (by omega)) (by
      have h1 := int_lt_p2 ((a - b) * (a - b)) 53 (by have : (2 ^ 53 : Nat) = 9007199254740992 := by decide
                                                      omega)
      exact rlt_le h1 (p2_le (by omega)))
    exact ⟨m, hm, gd0_of_is im⟩
  obtain ⟨m, hm, gm⟩ := hmul
  obtain ⟨r, hr, gr⟩ := Gd.add hs gm (by omega) (by omega)
  exact ⟨d, m, r, fun P T w => run_float_arith w .sub T .f64 _ _ d hd, fun P T w => run_float_arith w .mul T .f64 _ _ m hm, fun P T w => run_float_arith w .add T .f64 _ _ r hr, gr⟩

set_option maxHeartbeats 2000000 in
theorem dist_at (w : World) (dims : Nat) (p q : TP) (hp : p.Ok w dims) (hq : q.Ok w dims) (gp : p.Gr) (gq : q.Gr) (hdm : dims ≤ 4) :
    Calls Try.prog 135 #[.slice p.A dims p.c, .iface 73 (.slice q.A dims q.c)] w fun e w' => (∃ r, e = .returned (.float .f64 r) ∧ Gd 0 r (sqx p.xs q.xs dims)) ∧ w = w' := by
  have hta := run_assert_pt
  have HH := Lib.hid (And.intro hp (And.intro hq (And.intro (TP.gr_iff.1 gp) (TP.gr_iff.1 gq))))
  have hz0 : Gd 0 0 0 := gd0_of_is is_zero
  have HZ0 := Lib.hid hz0
  clear hp hq gp gq hz0
  go_enter Try.func135, Try.ntmps135
  go_wp2
  go_loop [6, 14] (fun s i => ∃ k b : Nat, k ≤ dims ∧ i = .int .i64 k ∧ s = .float .f64 b ∧ Hid (Gd 0 b (sqx p.xs q.xs k))) (fun _ i => dims - (intOf i).toNat)
  case atStart => exact ⟨0, 0, Nat.zero_le _, rfl, rfl, HZ0.out⟩
  case round =>
    obtain ⟨k, b, hk, rfl, rfl, HR⟩ := hrel
    by_cases hlt : k < dims
    · obtain ⟨l1, s1⟩ := HH.out.1
      obtain ⟨l2, s2⟩ := HH.out.2.1
      rw [l1] at s1
      rw [l2] at s2
      obtain ⟨b1, o1, v1, e1, f1, c1⟩ := s1.at1 hlt
      obtain ⟨b2, o2, v2, e2, f2, c2⟩ := s2.at1 hlt
      rw [flts_getD (by omega)] at f1 f2
      cases f1
      cases f2
      have hxk : ∃ n, Wh (p.xs.getD k 0) n := HH.out.2.2.1 _ (mem_getD (by omega))
      have hyk : ∃ n, Wh (q.xs.getD k 0) n := HH.out.2.2.2 _ (mem_getD (by omega))
      have hle := sqx_le p.xs q.xs HH.out.2.2.1 HH.out.2.2.2 k (by omega) (by omega)
      obtain ⟨d, m, r, r1, r2, r3, hg⟩ := sq_run (zi_wh hxk) (zi_wh hyk) HR.out (sqx_nn _ _ _) (by omega)
      have HG : Hid (Gd 0 r (sqx p.xs q.xs (k + 1))) := hg
      rw [e1, e2]
      clear hg hle hxk hyk l1 l2 s1 s2 e1 e2
      generalize p.xs.getD k 0 = x at c1 r1
      generalize q.xs.getD k 0 = y at c2 r1
      go_wp2
      go_round
      case rel => exact ⟨k + 1, r, by omega, by go_num, rfl, HG⟩
      case measure => simp [intOf]; omega
    · obtain rfl : k = dims := by omega
      go_wp2
      go_ret
      exact ⟨⟨b, rfl, HR.out⟩, rfl⟩

theorem TP.Ok.drewN {w : World} {dims : Nat} {p : TP} (h : p.Ok w dims) (m : Nat) : p.Ok (w.drewN m) dims := h.mod0 ((Mod.refl _ _).drewN m)

set_option maxHeartbeats 4000000 in
theorem square_at (w : World) (dims : Nat) (p q : TP) (hp : p.Ok w dims) (hq : q.Ok w dims) (gp : p.Gr) (gq : q.Gr) (hdm : dims ≤ 4) :
    Calls Try.prog 51 #[.slice p.A dims p.c, .slice q.A dims q.c] w fun e w' => (∃ r, e = .returned (.float .f64 r) ∧ Gd 0 r (sqx p.xs q.xs dims)) ∧ ∃ m, w' = w.drewN m := by
  have HH := Lib.hid (And.intro hp (And.intro hq (And.intro (TP.gr_iff.1 gp) (TP.gr_iff.1 gq))))
  have hz0 : Gd 0 0 0 := gd0_of_is is_zero
  have HZ0 := Lib.hid hz0
  clear hp hq gp gq hz0
  go_enter Try.func51, Try.ntmps51
  go_wp2
  go_loopw [5, 10] (fun s i wr => ∃ k b m : Nat, k ≤ dims ∧ i = .int .i64 k ∧ s = .float .f64 b ∧ wr = w.drewN m ∧ Hid (Gd 0 b (sqx p.xs q.xs k))) (fun _ i _ => dims - (intOf i).toNat)
  case atStart => exact ⟨0, 0, 0, Nat.zero_le _, rfl, rfl, rfl, HZ0.out⟩
  case round =>
    obtain ⟨k, b, m, hk, rfl, rfl, rfl, HR⟩ := hrel
    by_cases hlt : k < dims
    · obtain ⟨l1, s1⟩ := HH.out.1
      obtain ⟨l2, s2⟩ := HH.out.2.1
      rw [l1] at s1
      rw [l2] at s2
      obtain ⟨b1, o1, v1, e1, f1, c1⟩ := s1.at1 hlt
      obtain ⟨b2, o2, v2, e2, f2, c2⟩ := s2.at1 hlt
      rw [flts_getD (by omega)] at f1 f2
      cases f1
      cases f2
      have hxk : ∃ n, Wh (p.xs.getD k 0) n := HH.out.2.2.1 _ (mem_getD (by omega))
      have hyk : ∃ n, Wh (q.xs.getD k 0) n := HH.out.2.2.2 _ (mem_getD (by omega))
      have hle := sqx_le p.xs q.xs HH.out.2.2.1 HH.out.2.2.2 k (by omega) (by omega)
      obtain ⟨d, mm, r, r1, r2, r3, hg⟩ := sq_run (zi_wh hxk) (zi_wh hyk) HR.out (sqx_nn _ _ _) (by omega)
      have HG : Hid (Gd 0 r (sqx p.xs q.xs (k + 1))) := hg
      rw [e1, e2]
      clear hg hle hxk hyk l1 l2 s1 s2 e1 e2
      generalize p.xs.getD k 0 = x at c1 r1
      generalize q.xs.getD k 0 = y at c2 r1
      have i0 : (0 : Int) ≤ k := by omega
      have i1 : (k : Int) < dims := by omega
      go_wp2
      go_quiet (fail)
      go_wp2
      go_roundw
      case rel => exact ⟨k + 1, r, m + nq, by omega, by go_num, rfl, by simp [World.drewN], HG⟩
      case measure => simp [intOf]; omega
    · obtain rfl : k = dims := by omega
      go_wp2
      go_ret
      exact ⟨⟨b, rfl, HR.out⟩, m, rfl⟩
end Go.Proofs.Ytmeooadgdagiiaa

namespace Lox
open Go Go.RowKit
set_option linter.unusedVariables false

/-- The word that math.Min picks of two whole numbers. -/
def minW (x y : Nat) : Nat := if (FloatKind.f64.decode x).isZero && (FloatKind.f64.decode y).isZero then (if (FloatKind.f64.decode x).neg == true then x else y) else if (FloatKind.f64.decode x).order (FloatKind.f64.decode y) == some .lt then x else y
/-- The word that math.Max picks of two whole numbers. -/
def maxW (x y : Nat) : Nat := if (FloatKind.f64.decode x).isZero && (FloatKind.f64.decode y).isZero then (if (FloatKind.f64.decode x).neg == false then x else y) else if (FloatKind.f64.decode x).order (FloatKind.f64.decode y) == some .gt then x else y

theorem wh_plain {x : Nat} (h : ∃ n, Wh x n) (b : Bool) : (FloatKind.f64.decode x == .infinity b) = false ∧ (FloatKind.f64.decode x).isNaN = false := by
  obtain ⟨n, hn⟩ := h
  obtain ⟨s, m, i, e⟩ := hn.1.1
  rw [e]
  exact ⟨rfl, rfl⟩

theorem pick_min {x y : Nat} (hx : ∃ n, Wh x n) (hy : ∃ n, Wh y n) : Extern.MathDim.pick "math.archMin" true .lt #[.float .f64 x, .float .f64 y] = pure (.float .f64 (minW x y)) := by
  have key : ∀ a b, FloatKind.f64.decode x = a → FloatKind.f64.decode y = b → Extern.MathDim.pick "math.archMin" true .lt #[.float .f64 x, .float .f64 y] = pure (.float .f64 (if a == .infinity true || b == .infinity true then FloatKind.f64.encode (.infinity true) else if a.isNaN || b.isNaN then 0x7FF8000000000001 else if a.isZero && b.isZero then (if a.neg == true then x else y) else if a.order b == some .lt then x else y)) := by
    rintro a b rfl rfl
    rfl
  rw [key _ _ rfl rfl]
  simp only [(wh_plain hx true).1, (wh_plain hx true).2, (wh_plain hy true).1, (wh_plain hy true).2, Bool.or_false, Bool.false_eq_true, if_false]
  rfl

theorem pick_max {x y : Nat} (hx : ∃ n, Wh x n) (hy : ∃ n, Wh y n) : Extern.MathDim.pick "math.archMax" false .gt #[.float .f64 x, .float .f64 y] = pure (.float .f64 (maxW x y)) := by
  have key : ∀ a b, FloatKind.f64.decode x = a → FloatKind.f64.decode y = b → Extern.MathDim.pick "math.archMax" false .gt #[.float .f64 x, .float .f64 y] = pure (.float .f64 (if a == .infinity false || b == .infinity false then FloatKind.f64.encode (.infinity false) else if a.isNaN || b.isNaN then 0x7FF8000000000001 else if a.isZero && b.isZero then (if a.neg == false then x else y) else if a.order b == some .gt then x else y)) := by
    rintro a b rfl rfl
    rfl
  rw [key _ _ rfl rfl]
  simp only [(wh_plain hx false).1, (wh_plain hx false).2, (wh_plain hy false).1, (wh_plain hy false).2, Bool.or_false, Bool.false_eq_true, if_false]
  rfl

theorem minW_wh {x y : Nat} {a b : Int} (hx : Wh x a) (hy : Wh y b) : Wh (minW x y) (min a b) := by
  have hlt := hx.1.lt hy.1
  have hlt' : ((FloatKind.f64.decode x).order (FloatKind.f64.decode y) == some .lt) = decide (a < b) := hlt
  unfold minW
  by_cases hz : ((FloatKind.f64.decode x).isZero && (FloatKind.f64.decode y).isZero) = true
  · rw [if_pos hz]
    rw [Bool.and_eq_true] at hz
    have e1 := gd_zero hx.1 hz.1
    have e2 := gd_zero hy.1 hz.2
    subst e1 e2
    rw [show min (0 : Int) 0 = 0 from rfl]
    split
    · exact hx
    · exact hy
  · rw [if_neg hz, hlt']
    by_cases h : a < b
    · rw [if_pos (decide_eq_true h), Int.min_eq_left (by omega)]; exact hx
    · rw [if_neg (by simpa using h), Int.min_eq_right (by omega)]; exact hy

theorem maxW_wh {x y : Nat} {a b : Int} (hx : Wh x a) (hy : Wh y b) : Wh (maxW x y) (max a b) := by
  have hlt := hx.1.gt hy.1
  have hlt' : ((FloatKind.f64.decode x).order (FloatKind.f64.decode y) == some .gt) = decide (b < a) := hlt
  unfold maxW
  by_cases hz : ((FloatKind.f64.decode x).isZero && (FloatKind.f64.decode y).isZero) = true
  · rw [if_pos hz]
    rw [Bool.and_eq_true] at hz
    have e1 := gd_zero hx.1 hz.1
    have e2 := gd_zero hy.1 hz.2
    subst e1 e2
    rw [show max (0 : Int) 0 = 0 from rfl]
    split
    · exact hx
    · exact hy
  · rw [if_neg hz, hlt']
    by_cases h : b < a
    · rw [if_pos (decide_eq_true h), Int.max_eq_left (by omega)]; exact hx
    · rw [if_neg (by simpa using h), Int.max_eq_right (by omega)]; exact hy

/-- The first k of xs have met ps. -/
def met (f : Nat → Nat → Nat) (xs ps : List Nat) (k : Nat) : List Nat := List.zipWith f (xs.take k) (ps.take k) ++ xs.drop k

theorem met_zero (f : Nat → Nat → Nat) (xs ps : List Nat) : met f xs ps 0 = xs := by simp [met]
theorem met_len {f : Nat → Nat → Nat} {xs ps : List Nat} {k : Nat} (h : xs.length = ps.length) (hk : k ≤ xs.length) : (met f xs ps k).length = xs.length := by simp [met]; omega
theorem met_end {f : Nat → Nat → Nat} {xs ps : List Nat} (h : xs.length = ps.length) : met f xs ps xs.length = List.zipWith f xs ps := by
  unfold met
  rw [List.take_length, h, List.take_length, ← h, List.drop_length, List.append_nil]
theorem met_get {f : Nat → Nat → Nat} {xs ps : List Nat} {k : Nat} (h : xs.length = ps.length) (hk : k < xs.length) : (met f xs ps k)[k]? = some (xs.getD k 0) := by
  unfold met
  rw [List.getElem?_append_right (by simp; omega)]
  simp [hk, ← h, show min k (xs.length) = k from by omega]
theorem met_step {f : Nat → Nat → Nat} {xs ps : List Nat} {k : Nat} (h : xs.length = ps.length) (hk : k < xs.length) : (met f xs ps k).set k (f (xs.getD k 0) (ps.getD k 0)) = met f xs ps (k + 1) := by
  have hp : k < ps.length := by omega
  have l : (List.zipWith f (xs.take k) (ps.take k)).length = k := by simp; omega
  unfold met
  rw [List.set_append_right _ _ (by rw [l]; exact Nat.le_refl _), l, Nat.sub_self, List.drop_eq_getElem_cons hk, List.set_cons_zero]
  rw [List.take_succ_eq_append_getElem hk, List.take_succ_eq_append_getElem hp, List.zipWith_append (by simp; omega)]
  simp [hk, hp]
end Lox
namespace Go.Proofs.Ytmeooadgdagiiaa
open Go.RowKit Lox
set_option linter.unusedVariables false

set_option maxHeartbeats 400000 in
theorem minw_at (x y : Nat) (w : World) (hx : ∃ n, Wh x n) (hy : ∃ n, Wh y n) : Calls Try.prog 78 #[.float .f64 x, .float .f64 y] w fun e' w' => e' = .returned (.float .f64 (minW x y)) ∧ w = w' := by
  have hf : ∀ w : World, (callFunc 84 #[.float .f64 x, .float .f64 y]).run Try.prog w = .ok (.value (.float .f64 (minW x y))) w := fun w => by
    rw [run_callFunc_extern Try.func84 (by kernel_rfl) (by kernel_rfl) (by kernel_rfl) (e := Extern.MathDim.pick "math.archMin" true .lt) (by kernel_rfl), pick_min hx hy]
    rfl
  clear hx hy
  generalize minW x y = r at hf
  go_enter Try.func78, Try.ntmps78
  go_wp2
  go_ret
  exact ⟨rfl, rfl⟩

set_option maxHeartbeats 400000 in
theorem maxw_at (x y : Nat) (w : World) (hx : ∃ n, Wh x n) (hy : ∃ n, Wh y n) : Calls Try.prog 130 #[.float .f64 x, .float .f64 y] w fun e' w' => e' = .returned (.float .f64 (maxW x y)) ∧ w = w' := by
  have hf : ∀ w : World, (callFunc 131 #[.float .f64 x, .float .f64 y]).run Try.prog w = .ok (.value (.float .f64 (maxW x y))) w := fun w => by
    rw [run_callFunc_extern Try.func131 (by kernel_rfl) (by kernel_rfl) (by kernel_rfl) (e := Extern.MathDim.pick "math.archMax" false .gt) (by kernel_rfl), pick_max hx hy]
    rfl
  clear hx hy
  generalize maxW x y = r at hf
  go_enter Try.func130, Try.ntmps130
  go_wp2
  go_ret
  exact ⟨rfl, rfl⟩
end Go.Proofs.Ytmeooadgdagiiaa

namespace Lox
open Go Go.RowKit
set_option linter.unusedVariables false

/-- A word of a whole number. -/
def Gn (x : Nat) : Prop := ∃ n, Gd 0 x n
open Classical in
/-- The whole number that a word stands for. -/
noncomputable def zv (x : Nat) : Int := if h : Gn x then Classical.choose h else 0
theorem zv_gd {x : Nat} (h : Gn x) : Gd 0 x (zv x) := by
  unfold zv
  rw [dif_pos h]
  exact Classical.choose_spec h
theorem zv_eq {x : Nat} {n : Int} (h : Gd 0 x n) : zv x = n := gd_unique (zv_gd ⟨n, h⟩) h

/-- xs with x at place i. -/
def insAt (xs : List Nat) (x i : Nat) : List Nat := xs.take i ++ x :: xs.drop i

theorem insAt_end (xs : List Nat) (x : Nat) : insAt xs x xs.length = xs ++ [x] := by simp [insAt]
theorem insAt_len {xs : List Nat} {x i : Nat} (h : i ≤ xs.length) : (insAt xs x i).length = xs.length + 1 := by simp [insAt]; omega
theorem split_at {xs : List Nat} {j y : Nat} (h : xs[j]? = some y) : ∃ A B, xs = A ++ y :: B ∧ A.length = j := by
  obtain ⟨hl, e⟩ := List.getElem?_eq_some_iff.1 h
  refine ⟨xs.take j, xs.drop (j + 1), ?_, by simp; omega⟩
  rw [← e, ← List.drop_eq_getElem_cons hl, List.take_append_drop]
theorem insAt_at {A B : List Nat} {x y : Nat} : insAt (A ++ y :: B) x A.length = A ++ x :: y :: B ∧ insAt (A ++ y :: B) x (A.length + 1) = A ++ y :: x :: B := by
  unfold insAt
  constructor
  · simp
  · have e : A ++ y :: B = (A ++ [y]) ++ B := by simp
    have l : A.length + 1 = (A ++ [y]).length := by simp
    rw [e, l, List.take_left, List.drop_left]
    simp
theorem insAt_swap {xs : List Nat} {x y j : Nat} (h : xs[j]? = some y) : ((insAt xs x (j + 1)).set (j + 1) y).set j x = insAt xs x j := by
  obtain ⟨A, B, rfl, rfl⟩ := split_at h
  rw [insAt_at.1, insAt_at.2]
  simp
theorem insAt_get {xs : List Nat} {x y j : Nat} (h : xs[j]? = some y) : (insAt xs x (j + 1))[j]? = some y ∧ (insAt xs x (j + 1))[j + 1]? = some x := by
  obtain ⟨A, B, rfl, rfl⟩ := split_at h
  rw [insAt_at.2]
  simp
theorem insAt_perm (xs : List Nat) (x i : Nat) : (insAt xs x i).Perm (x :: xs) := by
  unfold insAt
  refine List.perm_middle.trans ?_
  rw [List.take_append_drop]

/-- Sorted by the numbers. -/
def Up (xs : List Nat) : Prop := xs.Pairwise fun a b => zv a ≤ zv b

theorem insAt_up {xs : List Nat} {x i : Nat} (h : Up xs) (hi : i ≤ xs.length) (h1 : ∀ y ∈ xs.drop i, zv x < zv y) (h2 : ∀ j y, i = j + 1 → xs[j]? = some y → zv y ≤ zv x) : Up (insAt xs x i) := by
  have h0 : Up (xs.take i ++ xs.drop i) := by rw [List.take_append_drop]; exact h
  obtain ⟨a1, a2, a3⟩ := List.pairwise_append.1 h0
  refine List.pairwise_append.2 ⟨a1, List.pairwise_cons.2 ⟨fun y hy => by have := h1 y hy; omega, a2⟩, fun a ha b hb => ?_⟩
  rcases List.mem_cons.1 hb with rfl | hb
  · cases i with
    | zero => simp at ha
    | succ j =>
      obtain ⟨y, hy⟩ : ∃ y, xs[j]? = some y := ⟨_, List.getElem?_eq_getElem (by omega)⟩
      have hyx := h2 j y rfl hy
      rw [List.take_add_one, hy] at ha a1
      rcases List.mem_append.1 ha with ha | ha
      · have := (List.pairwise_append.1 a1).2.2 a ha y (by simp)
        omega
      · have : a = y := by simpa using ha
        rw [this]; exact hyx
  · exact a3 a ha b hb

theorem own_at {w : World} {B : Nat} {e : TypeId} {g n cap : Nat} {xs : List Value} (h : w.ownsRow B e 1 (.slice (some ⟨g, 0, none⟩) n cap) n xs) {j : Nat} {u : Value} (hu : xs[j]? = some u) : w.cell? ⟨g, j, none⟩ = some u ∧ w.frozen? ⟨g, j, none⟩ = false := by
  have h1 := h.cells (g := g) rfl j u hu
  rw [addr_lit, Nat.zero_add] at h1
  refine ⟨h1, ?_⟩
  rcases h.2 with ⟨e1, _⟩ | ⟨g', cap', cur, e1, hB, hg, _⟩
  · cases e1
  · cases e1
    have hb : Blk w g e cur.toList := by unfold Blk; simpa using hg
    exact hb.frozen _
end Lox
namespace Go.Proofs.Ytmeooadgdagiiaa
open Go.RowKit Lox
set_option linter.unusedVariables false
attribute [local go_sem] run_store_flt run_store_fn

theorem flts_set (xs : List Nat) (i x : Nat) : (flts xs).set i (.float .f64 x) = flts (xs.set i x) := by unfold flts; rw [List.map_set]
theorem flts_app (xs ys : List Nat) : flts xs ++ flts ys = flts (xs ++ ys) := by unfold flts; rw [List.map_append]
theorem flts_get {xs : List Nat} {j x : Nat} (h : xs[j]? = some x) : (flts xs)[j]? = some (.float .f64 x) := by unfold flts; rw [List.getElem?_map, h]; rfl

/-- What withNumber tells: the row's new value, the place. -/
def WithTold (B n : Nat) (v : Value) (xs : List Nat) (x : Nat) (w : World) (e : Ending) (w' : World) : Prop :=
  ∃ (g cap i : Nat), e = .returned (.slice (some ⟨g, 0, none⟩) (n + 1) cap) ∧ w'.ownsRow B 27 1 (.slice (some ⟨g, 0, none⟩) (n + 1) cap) (n + 1) (flts (insAt xs x i)) ∧ i ≤ n ∧ (∀ y ∈ xs.drop i, zv x < zv y) ∧ (∀ j y, i = j + 1 → xs[j]? = some y → zv y ≤ zv x) ∧ Mod (fun k => v.ownBlock = some k) w w' ∧ (v.ownBlock = some g ∨ w.heap.size ≤ g)

/-- The loop's state. -/
structure WS (B n g cap : Nat) (v : Value) (xs : List Nat) (x i : Nat) (w w' : World) : Prop where
  own : w'.ownsRow B 27 1 (.slice (some ⟨g, 0, none⟩) (n + 1) cap) (n + 1) (flts (insAt xs x i))
  gt : ∀ y ∈ xs.drop i, zv x < zv y
  mod : Mod (fun k => v.ownBlock = some k) w w'
  at' : v.ownBlock = some g ∨ w.heap.size ≤ g

theorem WS.step {B n g cap i y x : Nat} {v : Value} {xs : List Nat} {w w' : World} (h : WS B n g cap v xs x (i + 1) w w') (hy : xs[i]? = some y) (hlt : zv x < zv y) : WS B n g cap v xs x i w ((w'.setCell ⟨g, i + 1, none⟩ (.float .f64 y)).setCell ⟨g, i, none⟩ (.float .f64 x)) := by
  refine ⟨?_, fun z hz => ?_, (h.mod.set (p := ⟨g, i + 1, none⟩) h.at' _).set (p := ⟨g, i, none⟩) h.at' _, h.at'⟩
  · have h2 := own_set_at (i := i) (own_set_at (i := i + 1) h.own (.float .f64 y)) (.float .f64 x)
    rw [flts_set, flts_set, insAt_swap hy] at h2
    exact h2
  · obtain ⟨A, B', rfl, rfl⟩ := split_at hy
    rw [List.drop_left] at hz
    rcases List.mem_cons.1 hz with rfl | hz
    · exact hlt
    · refine h.gt z ?_
      have e : A ++ y :: B' = (A ++ [y]) ++ B' := by simp
      have l : A.length + 1 = (A ++ [y]).length := by simp
      rw [e, l, List.drop_left]
      exact hz

set_option maxHeartbeats 4000000 in
theorem with_at (B n : Nat) (v : Value) (xs : List Nat) (x : Nat) (w : World) (hown : w.ownsRow B 27 1 v n (flts xs)) (hn : n ≤ 2147483647) (hB : B ≤ w.heap.size) (hg : ∀ y ∈ xs, Gn y) (hx : Gn x) :
    Calls Try.prog 53 #[v, .float .f64 x] w (WithTold B n v xs x w) := by
  obtain ⟨i0, hi0, hz0, hz1, hz2⟩ := info_parts info_f64
  have HI := Lib.hid (And.intro hi0 (And.intro hz0 (And.intro hz1 hz2)))
  clear hi0 hz0 hz1 hz2
  have hxl : xs.length = n := by have := hown.1; simpa [flts] using this
  have HH := Lib.hid (And.intro hown (And.intro hB (And.intro hg (And.intro hx hxl))))
  clear hown hB hg hx hxl
  go_enter Try.func53, Try.ntmps53
  go_wp2_with (at_builtin; refine wpList_append_lies _ (by rfl) (.tmp 6) (.tmp 8) 26 (by rfl) B 27 i0 _ 1 8 Try.underlying26 HI.out.1 HI.out.2.1 HI.out.2.2.1 HI.out.2.2.2 rfl (by omega) v n (flts xs) (by rfl) ((HH.out.1.kept (Mod.grownBy (Mod.refl _ w)) (Decidable.em _)).alloc _) ⟨w.heap.size, 0, none⟩ 1 1 [.float .f64 x] (by rfl) (by rfl) (World.news_of_block (cs := #[.float .f64 x]) (t := 27) (fr := (0, 0)) (heap_alloc_new w _)) (by simp [Value.oneCell']) (by omega) (by unfold maxLen; omega) (by omega) (by have := HH.out.2.1; simp; omega) (w.heap.size + 1) (by simp) ?_; intro g cap w3 hown3 hgrow hat hlt3; have HG := Lib.hid (And.intro hown3 (And.intro hgrow hat)); clear hown3 hgrow hat)
  have hws : WS B n g cap v xs x n w w3 := by
    obtain ⟨h1, h2, h3⟩ := HG.out
    refine ⟨?_, fun y hy => ?_, ((Mod.refl _ w).alloc _).grown h2 (fun k e _ => e), ?_⟩
    · have e : flts xs ++ [.float .f64 x] = flts (insAt xs x n) := by rw [← HH.out.2.2.2.2, insAt_end, ← flts_app]; rfl
      rw [e] at h1
      exact h1
    · rw [← HH.out.2.2.2.2, List.drop_length] at hy; cases hy
    · rcases h3 with h3 | h3
      · exact .inl h3
      · exact .inr (by omega)
  have HW0 := Lib.hid hws
  clear hws
  go_loopw [5] (fun i w' => ∃ k : Nat, k ≤ n ∧ i = .int .i64 k ∧ Hid (WS B n g cap v xs x k w w')) (fun i _ => (intOf i).toNat)
  case atStart => exact ⟨n, Nat.le_refl _, by go_num, HW0.out⟩
  case round =>
    obtain ⟨k, hk, rfl, HR⟩ := hrel
    cases k with
    | zero =>
      go_wp2
      go_ret
      exact ⟨g, cap, 0, rfl, HR.out.own, Nat.zero_le _, HR.out.gt, (fun j y e => by omega), HR.out.mod, HR.out.at'⟩
    | succ j =>
      obtain ⟨y, hy⟩ : ∃ y, xs[j]? = some y := ⟨_, List.getElem?_eq_getElem (by have := HH.out.2.2.2.2; omega)⟩
      obtain ⟨g1, g2⟩ := insAt_get (x := x) hy
      obtain ⟨c1, z1⟩ := own_at HR.out.own (flts_get g1)
      obtain ⟨c2, z2⟩ := own_at HR.out.own (flts_get g2)
      have gy := HH.out.2.2.1 y (List.mem_of_getElem? hy)
      have hgt := (zv_gd gy).gt (zv_gd HH.out.2.2.2.1)
      have HY := Lib.hid hy
      have j0 : (0 : Int) ≤ j := by omega
      have j1 : (j : Int) < (n : Int) + 1 := by omega
      have j2 : (j : Int) + 1 < (n : Int) + 1 := by omega
      clear hy g1 g2 gy
      by_cases hlt : zv x < zv y
      · rw [decide_eq_true hlt] at hgt
        have HLT := Lib.hid hlt
        clear hlt
        go_wp2
        go_roundw
        case rel => exact ⟨j, by omega, by go_num, HR.out.step HY.out HLT.out⟩
        case measure => simp [intOf]
      · rw [decide_eq_false hlt] at hgt
        have HLT := Lib.hid hlt
        clear hlt
        go_wp2
        go_ret
        exact ⟨g, cap, j + 1, rfl, HR.out.own, hk, HR.out.gt, (fun j' y' e e2 => by
          obtain rfl : j' = j := by omega
          have e3 := HY.out.symm.trans e2
          injection e3 with e3
          subst e3
          have := HLT.out
          omega), HR.out.mod, HR.out.at'⟩
end Go.Proofs.Ytmeooadgdagiiaa

namespace Go.Proofs.Ytmeooadgdagiiaa
open Go.RowKit Lox
set_option linter.unusedVariables false
attribute [local go_sem] run_store_flt run_store_fn

/-- A box that stands in memory: its block g, the arrays of its least and greatest point in blocks b1, b2; all from block B on. -/
structure BoxIn (B : Nat) (w : World) (dims g b1 b2 c1 c2 : Nat) (mn mx : List Nat) : Prop where
  blk : Blk w g 129 [.iface 73 (.slice (some ⟨b1, 0, none⟩) dims c1), .iface 73 (.slice (some ⟨b2, 0, none⟩) dims c2)]
  own1 : w.ownsRow B 27 1 (.slice (some ⟨b1, 0, none⟩) dims c1) dims (flts mn)
  own2 : w.ownsRow B 27 1 (.slice (some ⟨b2, 0, none⟩) dims c2) dims (flts mx)
  ne : b1 ≠ b2 ∧ b1 ≠ g ∧ b2 ≠ g
  low : B ≤ g
  lt : g < w.heap.size ∧ b1 < w.heap.size ∧ b2 < w.heap.size

theorem own_ge {w : World} {B e n cap g : Nat} {xs : List Value} (h : w.ownsRow B e 1 (.slice (some ⟨g, 0, none⟩) n cap) n xs) : B ≤ g ∧ g < w.heap.size := own_block h rfl

theorem own_low {w : World} {B B' e n cap g : Nat} {xs : List Value} (h : w.ownsRow B e 1 (.slice (some ⟨g, 0, none⟩) n cap) n xs) (hB : B' ≤ B) : w.ownsRow B' e 1 (.slice (some ⟨g, 0, none⟩) n cap) n xs := by
  refine ⟨h.1, ?_⟩
  rcases h.2 with ⟨e1, _⟩ | ⟨g2, cap2, cur, e1, hB2, rest⟩
  · cases e1
  · exact .inr ⟨g2, cap2, cur, e1, by omega, rest⟩

theorem own_mod {w w' : World} {B e n cap g : Nat} {xs : List Value} {S : Nat → Prop} (h : w.ownsRow B e 1 (.slice (some ⟨g, 0, none⟩) n cap) n xs) (hm : Mod S w w') (hg : ¬ S g) : w'.ownsRow B e 1 (.slice (some ⟨g, 0, none⟩) n cap) n xs := by
  refine ⟨h.1, ?_⟩
  rcases h.2 with ⟨e1, _⟩ | ⟨g', cap', cur, e1, hB, hgg, rest⟩
  · cases e1
  · cases e1
    exact .inr ⟨g, cap, cur, rfl, hB, (hm.block g (own_ge h).2 hg).trans hgg, rest⟩

theorem BoxIn.mod {B dims g b1 b2 c1 c2 : Nat} {w w' : World} {mn mx : List Nat} {S : Nat → Prop} (h : BoxIn B w dims g b1 b2 c1 c2 mn mx) (hm : Mod S w w') (h1 : ¬ S g) (h2 : ¬ S b1) (h3 : ¬ S b2) : BoxIn B w' dims g b1 b2 c1 c2 mn mx :=
  ⟨h.blk.mod hm h1, own_mod h.own1 hm h2, own_mod h.own2 hm h3, h.ne, h.low, by have := hm.size; have := h.lt; omega⟩

/-- The loop's state: the first k numbers have been met. -/
structure EX (B : Nat) (w w' : World) (dims g b1 b2 c1 c2 : Nat) (mn mx ps : List Nat) (k : Nat) : Prop where
  box : BoxIn B w' dims g b1 b2 c1 c2 (met minW mn ps k) (met maxW mx ps k)
  mod : Mod (fun i => i = b1 ∨ i = b2) w w'

theorem EX.step {B dims g b1 b2 c1 c2 k : Nat} {w w' : World} {mn mx ps : List Nat} (h : EX B w w' dims g b1 b2 c1 c2 mn mx ps k) (h1 : mn.length = ps.length) (h2 : mx.length = ps.length) (hk : k < ps.length) :
    EX B w ((w'.setCell ⟨b1, k, none⟩ (.float .f64 (minW (mn.getD k 0) (ps.getD k 0)))).setCell ⟨b2, k, none⟩ (.float .f64 (maxW (mx.getD k 0) (ps.getD k 0)))) dims g b1 b2 c1 c2 mn mx ps (k + 1) := by
  obtain ⟨⟨a1, a2, a3, a4, a5, a6⟩, hm⟩ := h
  have m1 : Mod (fun i => i = b1) w' (w'.setCell ⟨b1, k, none⟩ (.float .f64 (minW (mn.getD k 0) (ps.getD k 0)))) := (Mod.refl (fun i => i = b1) _).set (p := ⟨b1, k, none⟩) (.inl rfl) _
  have m2 : Mod (fun i => i = b2) (w'.setCell ⟨b1, k, none⟩ (.float .f64 (minW (mn.getD k 0) (ps.getD k 0)))) ((w'.setCell ⟨b1, k, none⟩ (.float .f64 (minW (mn.getD k 0) (ps.getD k 0)))).setCell ⟨b2, k, none⟩ (.float .f64 (maxW (mx.getD k 0) (ps.getD k 0)))) := (Mod.refl (fun i => i = b2) _).set (p := ⟨b2, k, none⟩) (.inl rfl) _
  have s1 := m1.size
  have s2 := m2.size
  refine ⟨⟨(a1.mod m1 (fun e => a4.2.1 e.symm)).mod m2 (fun e => a4.2.2 e.symm), ?_, ?_, a4, a5, by omega⟩, (hm.trans (m1.mono fun _ _ e => .inl e)).trans (m2.mono fun _ _ e => .inr e)⟩
  · have h3 := own_set_at (i := k) a2 (.float .f64 (minW (mn.getD k 0) (ps.getD k 0)))
    rw [flts_set, met_step h1 (by omega)] at h3
    exact own_mod h3 m2 a4.1
  · have h3 := own_set_at (i := k) (own_mod a3 m1 (fun e => a4.1 e.symm)) (.float .f64 (maxW (mx.getD k 0) (ps.getD k 0)))
    rw [flts_set, met_step h2 (by omega)] at h3
    exact h3

/-- What Extend tells of a box. -/
def ExtTold (B dims g b1 b2 c1 c2 : Nat) (mn mx ps : List Nat) (w : World) (e : Ending) (w' : World) : Prop :=
  e = .returned (.pointer (some ⟨g, 0, none⟩)) ∧ BoxIn B w' dims g b1 b2 c1 c2 (List.zipWith minW mn ps) (List.zipWith maxW mx ps) ∧ Mod (fun i => i = g ∨ i = b1 ∨ i = b2) w w'

theorem EX.told {B dims g b1 b2 c1 c2 : Nat} {w w' : World} {mn mx ps : List Nat} (h : EX B w w' dims g b1 b2 c1 c2 mn mx ps dims) (hl : ps.length = dims) (h1 : mn.length = ps.length) (h2 : mx.length = ps.length) :
    ExtTold B dims g b1 b2 c1 c2 mn mx ps w (.returned (.pointer (some ⟨g, 0, none⟩))) ((w'.setCell ⟨g, 0, none⟩ (.iface 73 (.slice (some ⟨b1, 0, none⟩) dims c1))).setCell ⟨g, 1, none⟩ (.iface 73 (.slice (some ⟨b2, 0, none⟩) dims c2))) := by
  obtain ⟨⟨a1, a2, a3, a4, a5, a6⟩, hm⟩ := h
  have m1 : Mod (fun i => i = g) w' ((w'.setCell ⟨g, 0, none⟩ (.iface 73 (.slice (some ⟨b1, 0, none⟩) dims c1))).setCell ⟨g, 1, none⟩ (.iface 73 (.slice (some ⟨b2, 0, none⟩) dims c2))) := ((Mod.refl (fun i => i = g) _).set (p := ⟨g, 0, none⟩) (.inl rfl) _).set (p := ⟨g, 1, none⟩) (.inl rfl) _
  have s1 := m1.size
  have e1 : met minW mn ps dims = List.zipWith minW mn ps := by have : dims = mn.length := by omega
                                                                rw [this]; exact met_end h1
  have e2 : met maxW mx ps dims = List.zipWith maxW mx ps := by have : dims = mx.length := by omega
                                                                rw [this]; exact met_end h2
  rw [e1] at a2
  rw [e2] at a3
  refine ⟨rfl, ⟨?_, own_mod a2 m1 a4.2.1, own_mod a3 m1 a4.2.2, a4, a5, by omega⟩, (hm.mono fun _ _ e => .inr e).trans (m1.mono fun _ _ e => .inl e)⟩
  have := (a1.set 0 (.iface 73 (.slice (some ⟨b1, 0, none⟩) dims c1))).set 1 (.iface 73 (.slice (some ⟨b2, 0, none⟩) dims c2))
  exact this

set_option maxHeartbeats 4000000 in
theorem extend_at (B dims g b1 b2 c1 c2 : Nat) (p : TP) (mn mx : List Nat) (w : World) (hb : BoxIn B w dims g b1 b2 c1 c2 mn mx) (hp : p.Ok w dims) (hpb : ∀ b o, p.A = some ⟨b, o, none⟩ → b ≠ b1 ∧ b ≠ b2) (gp : p.Gr) (gmn : ∀ x ∈ mn, ∃ n, Wh x n) (gmx : ∀ x ∈ mx, ∃ n, Wh x n) (hd : dims ≤ 1099511627776) :
    Calls Try.prog 129 #[.slice p.A dims p.c, .pointer (some ⟨g, 0, none⟩)] w (ExtTold B dims g b1 b2 c1 c2 mn mx p.xs w) := by
  have hta := run_assert_pt
  have l1 : mn.length = dims := by have := hb.own1.1; simpa [flts] using this
  have l2 : mx.length = dims := by have := hb.own2.1; simpa [flts] using this
  have hE : EX B w w dims g b1 b2 c1 c2 mn mx p.xs 0 := ⟨by rw [met_zero, met_zero]; exact hb, Mod.refl _ _⟩
  have c0 := hb.blk.at (i := 0) rfl
  have d0 := hb.blk.at (i := 1) rfl
  have HH := Lib.hid (And.intro hE (And.intro hp (And.intro hpb (And.intro (TP.gr_iff.1 gp) (And.intro gmn (And.intro gmx (And.intro l1 l2)))))))
  clear hb hp hpb gp gmn gmx l1 l2 hE
  go_enter Try.func129, Try.ntmps129
  go_wp2
  go_loopw [31] (fun i wr => ∃ k : Nat, k ≤ dims ∧ i = .int .i64 k ∧ Hid (EX B w wr dims g b1 b2 c1 c2 mn mx p.xs k)) (fun i _ => dims - (intOf i).toNat)
  case atStart => exact ⟨0, Nat.zero_le _, rfl, HH.out.1⟩
  case round =>
    obtain ⟨k, hk, rfl, HR⟩ := hrel
    have hbk := HR.out.box.blk
    by_cases hlt : k < dims
    · obtain ⟨p1, p2⟩ := HH.out.2.1
      rw [p1] at p2
      obtain ⟨b3, o3, v3, e3, f3, x3⟩ := p2.at1 hlt
      rw [flts_getD (by omega)] at f3
      cases f3
      have hne := HH.out.2.2.1 b3 o3 e3
      have xw : wr.cell? ⟨b3, o3 + k, none⟩ = some (.float .f64 (p.xs.getD k 0)) := (HR.out.mod.cell (lt_of_cell x3) (by rintro (h | h); exact hne.1 h; exact hne.2 h)).trans x3
      have hl1 := HH.out.2.2.2.2.2.2.1
      have hl2 := HH.out.2.2.2.2.2.2.2
      obtain ⟨y1, z1⟩ := own_at HR.out.box.own1 (flts_get (met_get (f := minW) (xs := mn) (ps := p.xs) (by omega) (by omega)))
      obtain ⟨y2, z2⟩ := own_at HR.out.box.own2 (flts_get (met_get (f := maxW) (xs := mx) (ps := p.xs) (by omega) (by omega)))
      have gx : ∃ n, Wh (p.xs.getD k 0) n := HH.out.2.2.2.1 _ (mem_getD (by omega))
      have g1 : ∃ n, Wh (mn.getD k 0) n := HH.out.2.2.2.2.1 _ (mem_getD (by omega))
      have g2 : ∃ n, Wh (mx.getD k 0) n := HH.out.2.2.2.2.2.1 _ (mem_getD (by omega))
      have hstep := HR.out.step (by omega) (by omega) (by omega)
      have hbb : b1 ≠ b2 := HR.out.box.ne.1
      have HST := Lib.hid hstep
      have HG := Lib.hid (And.intro gx (And.intro g1 g2))
      have y2' : ∀ u : Value, (wr.setCell ⟨b1, k, none⟩ u).cell? ⟨b2, k, none⟩ = some (.float .f64 (mx.getD k 0)) := fun u => (World.cell?_of_block (w := wr) (Below.heap_setCell _ _ _ _ (by show b2 ≠ b1; exact fun h => hbb h.symm))).trans y2
      rw [e3]
      clear e3 p1 p2 x3 hne hl1 hl2 gx g1 g2 hstep hbk c0 d0
      generalize p.xs.getD k 0 = x at xw HG HST
      generalize mn.getD k 0 = a at y1 HG HST
      generalize mx.getD k 0 = b at y2 y2' HG HST
      go_wp2_with (first
        | (go_at_call 78; refine (minw_at a x _ HG.out.2.1 HG.out.1).mono ?_; rintro _ _ ⟨rfl, rfl⟩)
        | (go_at_call 130; refine (maxw_at b x _ HG.out.2.2 HG.out.1).mono ?_; rintro _ _ ⟨rfl, rfl⟩))
      go_roundw
      case rel => exact ⟨k + 1, by omega, by go_num, HST.out⟩
      case measure => simp [intOf]; omega
    · obtain rfl : k = dims := by omega
      have u0 := hbk.at (i := 0) rfl
      have u1 := hbk.at (i := 1) rfl
      have v0 := hbk.frozen 0
      have v1 := hbk.frozen 1
      clear hbk c0 d0
      go_wp2
      go_ret
      exact HR.out.told HH.out.2.1.1 (by have := HH.out.2.1.1; have := HH.out.2.2.2.2.2.2.1; omega) (by have := HH.out.2.1.1; have := HH.out.2.2.2.2.2.2.2; omega)

/-- What Extend tells of no box. -/
def NewBox (dims : Nat) (ps : List Nat) (w : World) (e : Ending) (w' : World) : Prop :=
  ∃ g b1 b2 c1 c2 : Nat, e = .returned (.pointer (some ⟨g, 0, none⟩)) ∧ BoxIn w.heap.size w' dims g b1 b2 c1 c2 (List.zipWith minW ps ps) (List.zipWith maxW ps ps) ∧ Mod (fun _ => False) w w'

set_option maxHeartbeats 4000000 in
theorem extend_new (dims : Nat) (p : TP) (w : World) (hp : p.Ok w dims) (gp : p.Gr) (hd : 0 < dims ∧ dims ≤ 1099511627776) :
    Calls Try.prog 129 #[.slice p.A dims p.c, .pointer none] w (NewBox dims p.xs w) := by
  have hta := run_assert_pt
  obtain ⟨i0, hi0, hz0, hz1, hz2⟩ := info_parts info_f64
  have HI := Lib.hid (And.intro hi0 (And.intro hz0 (And.intro hz1 hz2)))
  clear hi0 hz0 hz1 hz2
  obtain ⟨p1, p2⟩ := hp
  rw [p1] at p2
  obtain ⟨pb, po, eA, hc⟩ := p2.2 hd.1
  have hfar : ∀ b o, p.A = some ⟨b, o, none⟩ → b < w.heap.size := fun b o e => p2.far (by omega) hd.1 b o e
  have HP := Lib.hid (And.intro p1 (And.intro p2 (And.intro hfar (TP.gr_iff.1 gp))))
  have HC := Lib.hid hc
  have HEA := Lib.hid eA
  clear p1 p2 hfar gp hc
  rw [eA]
  clear eA
  have tok1 : True := trivial
  go_enter Try.func129, Try.ntmps129
  go_wp2_with (at_builtin; first
    | (have _t := tok1; clear _t tok1; go_loud (refine wpList_append_lies _ rfl _ _ _ rfl w.heap.size 27 i0 (.float .f64 0) 1 8 Try.underlying73 HI.out.1 HI.out.2.1 HI.out.2.2.1 HI.out.2.2.2 rfl (by decide) (.slice none 0 0) 0 [] rfl (World.ownsRow_nil _ _ _ _) ⟨pb, po, none⟩ dims p.c (flts p.xs) rfl (by rw [HP.out.2.1.1]) (by intro j u hu; rw [addr_lit]; exact HC.out j u hu) (by intro u hu; obtain ⟨z, _, rfl⟩ := List.mem_map.1 hu; rfl) hd.1 (by unfold maxLen; omega) (by omega) (Nat.le_refl _) w.heap.size rfl ?_; intro b1 c1 w1 hown1 hgrow1 hat1 hlt1; simp only [Nat.zero_add, List.nil_append] at hown1 ⊢; have H1 := Lib.hid (And.intro hown1 (And.intro (mod_of_grown hgrow1) (And.intro hat1 hlt1))); clear hown1 hgrow1 hat1 hlt1))
    | (go_loud (refine wpList_append_lies _ rfl _ _ _ rfl w.heap.size 27 i0 (.float .f64 0) 1 8 Try.underlying73 HI.out.1 HI.out.2.1 HI.out.2.2.1 HI.out.2.2.2 rfl (by decide) (.slice none 0 0) 0 [] rfl (World.ownsRow_nil _ _ _ _) ⟨pb, po, none⟩ dims p.c (flts p.xs) rfl (by rw [HP.out.2.1.1]) (by intro j u hu; rw [addr_lit]; exact (H1.out.2.1.cell (lt_of_cell (HC.out j u hu)) (fun h => h)).trans (HC.out j u hu)) (by intro u hu; obtain ⟨z, _, rfl⟩ := List.mem_map.1 hu; rfl) hd.1 (by unfold maxLen; omega) (by omega) H1.out.2.1.size w1.heap.size rfl ?_; intro b2 c2 w2 hown2 hgrow2 hat2 hlt2; simp only [Nat.zero_add, List.nil_append] at hown2 ⊢; have H2 := Lib.hid (And.intro hown2 (And.intro (mod_of_grown hgrow2) (And.intro hat2 hlt2))); clear hown2 hgrow2 hat2 hlt2)))
  obtain ⟨g, hg⟩ : ∃ g, g = w2.heap.size := ⟨_, rfl⟩
  obtain ⟨W3, eW3⟩ : ∃ W3, W3 = w2.alloc (Obj.cells #[.iface 73 (.slice (some ⟨b1, 0, none⟩) dims c1), .iface 73 (.slice (some ⟨b2, 0, none⟩) dims c2)] 129) := ⟨_, rfl⟩
  have e1 : b1 = w.heap.size := by
    rcases H1.out.2.2.1 with h | h
    · cases h
    · exact h
  have e2 : b2 = w1.heap.size := by
    rcases H2.out.2.2.1 with h | h
    · cases h
    · exact h
  have q1 := H1.out.2.2.2
  have q2 := H2.out.2.2.2
  have s1 := H1.out.2.1.size
  have s2 := H2.out.2.1.size
  have hm2 : Mod (fun _ => False) w2 W3 := by rw [eW3]; exact (Mod.refl _ _).alloc _
  have s3 := hm2.size
  have hm3 : Mod (fun _ => False) w W3 := (H1.out.2.1.trans H2.out.2.1).trans hm2
  have hgl : g < W3.heap.size := by rw [eW3, World.size_alloc, hg]; omega
  have hbx : BoxIn w.heap.size W3 dims g b1 b2 c1 c2 p.xs p.xs := ⟨by rw [eW3, hg]; exact Blk.new' w2 _ _, own_mod (own_mod H1.out.1 H2.out.2.1 (fun h => h)) hm2 (fun h => h), own_mod H2.out.1 hm2 (fun h => h), by omega, by omega, by omega⟩
  have hE : EX w.heap.size W3 W3 dims g b1 b2 c1 c2 p.xs p.xs p.xs 0 := ⟨by rw [met_zero, met_zero]; exact hbx, Mod.refl _ _⟩
  have HH := Lib.hid (And.intro hE (And.intro (show p.Ok W3 dims from ⟨HP.out.1, by rw [HP.out.1]; exact HP.out.2.1.mod hm3⟩) (And.intro (fun b o e => (show b ≠ b1 ∧ b ≠ b2 by have := HP.out.2.2.1 b o e; omega)) (And.intro HP.out.2.2.2 (And.intro HP.out.2.2.2 (And.intro HP.out.2.2.2 (And.intro HP.out.1 HP.out.1)))))))
  have HW3 : Hid (Mod (fun _ => False) w W3 ∧ w.heap.size ≤ g ∧ w.heap.size ≤ b1 ∧ w.heap.size ≤ b2) := ⟨hm3, by omega, by omega, by omega⟩
  rw [← eW3, ← hg]
  clear hE hbx hm2 hm3 e1 e2 q1 q2 s1 s2 s3 hgl eW3 hg
  go_loopw [31] (fun i wr => ∃ k : Nat, k ≤ dims ∧ i = .int .i64 k ∧ Hid (EX w.heap.size W3 wr dims g b1 b2 c1 c2 p.xs p.xs p.xs k)) (fun i _ => dims - (intOf i).toNat)
  case atStart => exact ⟨0, Nat.zero_le _, rfl, HH.out.1⟩
  case round =>
    obtain ⟨k, hk, rfl, HR⟩ := hrel
    have hbk := HR.out.box.blk
    by_cases hlt : k < dims
    · obtain ⟨p1, p2⟩ := HH.out.2.1
      rw [p1] at p2
      obtain ⟨b3, o3, v3, e3, f3, x3⟩ := p2.at1 hlt
      rw [flts_getD (by omega)] at f3
      cases f3
      have hne := HH.out.2.2.1 b3 o3 e3
      have xw : wr.cell? ⟨b3, o3 + k, none⟩ = some (.float .f64 (p.xs.getD k 0)) := (HR.out.mod.cell (lt_of_cell x3) (by rintro (h | h); exact hne.1 h; exact hne.2 h)).trans x3
      have hl1 := HH.out.2.2.2.2.2.2.1
      have hl2 := HH.out.2.2.2.2.2.2.2
      obtain ⟨y1, z1⟩ := own_at HR.out.box.own1 (flts_get (met_get (f := minW) (xs := p.xs) (ps := p.xs) (by omega) (by omega)))
      obtain ⟨y2, z2⟩ := own_at HR.out.box.own2 (flts_get (met_get (f := maxW) (xs := p.xs) (ps := p.xs) (by omega) (by omega)))
      have gx : ∃ n, Wh (p.xs.getD k 0) n := HH.out.2.2.2.1 _ (mem_getD (by omega))
      have g1 : ∃ n, Wh (p.xs.getD k 0) n := HH.out.2.2.2.2.1 _ (mem_getD (by omega))
      have g2 : ∃ n, Wh (p.xs.getD k 0) n := HH.out.2.2.2.2.2.1 _ (mem_getD (by omega))
      have hstep := HR.out.step (by omega) (by omega) (by omega)
      have hbb : b1 ≠ b2 := HR.out.box.ne.1
      have HST := Lib.hid hstep
      have HG := Lib.hid (And.intro gx (And.intro g1 g2))
      have y2' : ∀ u : Value, (wr.setCell ⟨b1, k, none⟩ u).cell? ⟨b2, k, none⟩ = some (.float .f64 (p.xs.getD k 0)) := fun u => (World.cell?_of_block (w := wr) (Below.heap_setCell _ _ _ _ (by show b2 ≠ b1; exact fun h => hbb h.symm))).trans y2
      have e4 := HEA.out.symm.trans e3
      injection e4 with e4
      injection e4 with e5 e6
      subst e5 e6
      clear e3 p1 p2 x3 hne hl1 hl2 gx g1 g2 hstep hbk
      generalize p.xs.getD k 0 = x at xw HG HST y1 y2 y2'
      go_wp2_with (first
        | (go_at_call 78; refine (minw_at x x _ HG.out.2.1 HG.out.1).mono ?_; rintro _ _ ⟨rfl, rfl⟩)
        | (go_at_call 130; refine (maxw_at x x _ HG.out.2.2 HG.out.1).mono ?_; rintro _ _ ⟨rfl, rfl⟩))
      go_roundw
      case rel => exact ⟨k + 1, by omega, by go_num, HST.out⟩
      case measure => simp [intOf]; omega
    · obtain rfl : k = dims := by omega
      have u0 := hbk.at (i := 0) rfl
      have u1 := hbk.at (i := 1) rfl
      have v0 := hbk.frozen 0
      have v1 := hbk.frozen 1
      clear hbk
      go_wp2
      go_ret
      obtain ⟨t1, t2, t3⟩ := HR.out.told HH.out.2.1.1 rfl rfl
      exact ⟨g, b1, b2, c1, c2, t1, t2, HW3.out.1.trans' t3 fun i hi e => by have := HW3.out.2; omega⟩
end Go.Proofs.Ytmeooadgdagiiaa
