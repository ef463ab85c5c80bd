/- Steps of a proof, one behind another: The walks of Distance and SquareN over points of whole numbers. What a keeper holds of a tree's points, in plain Lean. What stands in a keeper that has been put in order, in plain Lean. The walk of the copy of the points that a k-d tree is built of. Rows of nodes that the thin package writes a k-d tree down in. Conditions: as each theorem says. -/
import Derived.Test.YtmeooadgdagiiaaGreatMw7
import Derived.Deep.QuietTactic
import Derived.Deep.AppendLies

namespace Lox
open Go Go.RowKit
set_option linter.unusedVariables false

theorem gd_unique {x : Nat} {n m : Int} (h : Gd 0 x n) (k : Gd 0 x m) : n = m := by
  have h1 := h.eq h
  have h2 := h.eq k
  rw [decide_eq_true rfl] at h1
  rw [h1] at h2
  exact of_decide_eq_true h2.symm

open Classical in
/-- The whole number that a word stands for. -/
noncomputable def zi (x : Nat) : Int := if h : ∃ n, Wh x n then Classical.choose h else 0

theorem zi_wh {x : Nat} (h : ∃ n, Wh x n) : Wh x (zi x) := by
  unfold zi
  rw [dif_pos h]
  exact Classical.choose_spec h

theorem zi_eq {x : Nat} {n : Int} (h : Wh x n) : zi x = n := gd_unique (zi_wh ⟨n, h⟩).1 h.1

/-- The squared distance, over the first k coordinates. -/
noncomputable def sqx (xs ys : List Nat) : Nat → Int
  | 0 => 0
  | k + 1 => sqx xs ys k + (zi (xs.getD k 0) - zi (ys.getD k 0)) * (zi (xs.getD k 0) - zi (ys.getD k 0))

theorem sqx_comm (xs ys : List Nat) (k : Nat) : sqx xs ys k = sqx ys xs k := by
  induction k with
  | zero => rfl
  | succ k ih =>
    simp only [sqx, ih]
    have : (zi (xs.getD k 0) - zi (ys.getD k 0)) * (zi (xs.getD k 0) - zi (ys.getD k 0)) = (zi (ys.getD k 0) - zi (xs.getD k 0)) * (zi (ys.getD k 0) - zi (xs.getD k 0)) := by rw [← Int.neg_mul_neg]; congr 1 <;> omega
    rw [this]

theorem sq_nn (a : Int) : 0 ≤ a * a := by
  rcases Int.le_total 0 a with h | h
  · exact Int.mul_nonneg h h
  · exact Int.mul_nonneg_of_nonpos_of_nonpos h h

theorem sq_le42 {a : Int} (h : a.natAbs ≤ 2097152) : a * a ≤ 4398046511104 := by
  have e : ((a.natAbs * a.natAbs : Nat) : Int) = a * a := Int.natAbs_mul_self
  have h2 : a.natAbs * a.natAbs ≤ 2097152 * 2097152 := Nat.mul_le_mul h h
  omega

theorem mem_getD {xs : List Nat} {k : Nat} (h : k < xs.length) : xs.getD k 0 ∈ xs := by simp [h]

theorem sqx_nn (xs ys : List Nat) (k : Nat) : 0 ≤ sqx xs ys k := by
  induction k with
  | zero => exact Int.le_refl _
  | succ k ih =>
    have := sq_nn (zi (xs.getD k 0) - zi (ys.getD k 0))
    simp only [sqx]; omega

theorem sqx_step (xs ys : List Nat) (k m : Nat) (h : k ≤ m) : sqx xs ys k ≤ sqx xs ys m := by
  induction m with
  | zero => obtain rfl : k = 0 := by omega
            exact Int.le_refl _
  | succ m ih =>
    rcases Nat.lt_or_ge k (m + 1) with h1 | h1
    · have h2 := ih (by omega)
      have := sq_nn (zi (xs.getD m 0) - zi (ys.getD m 0))
      simp only [sqx]; omega
    · obtain rfl : k = m + 1 := by omega
      exact Int.le_refl _

theorem sqx_ge (xs ys : List Nat) (d m : Nat) (h : d < m) : (zi (xs.getD d 0) - zi (ys.getD d 0)) * (zi (xs.getD d 0) - zi (ys.getD d 0)) ≤ sqx xs ys m := by
  have h1 := sqx_step xs ys (d + 1) m h
  have h2 := sqx_nn xs ys d
  simp only [sqx] at h1
  omega

theorem sqx_le (xs ys : List Nat) (hx : ∀ x ∈ xs, ∃ n, Wh x n) (hy : ∀ y ∈ ys, ∃ n, Wh y n) (k : Nat) (hkx : k ≤ xs.length) (hky : k ≤ ys.length) : sqx xs ys k ≤ 4398046511104 * k := by
  induction k with
  | zero => simp [sqx]
  | succ k ih =>
    have h1 := ih (by omega) (by omega)
    have hxk : ∃ n, Wh (xs.getD k 0) n := hx _ (mem_getD (by omega))
    have hyk : ∃ n, Wh (ys.getD k 0) n := hy _ (mem_getD (by omega))
    have ha := (zi_wh hxk).2
    have hb := (zi_wh hyk).2
    have := sq_le42 (a := zi (xs.getD k 0) - zi (ys.getD k 0)) (by omega)
    simp only [sqx]
    omega
end Lox
namespace Go.Proofs.YtmeooadgdagiiaaGreat
open Go.RowKit Lox
set_option linter.unusedVariables false
attribute [local go_sem] run_store_flt run_store_fn

theorem TP.gr_iff {p : TP} : p.Gr ↔ ∀ x ∈ p.xs, ∃ n, Wh x n := by
  refine ⟨fun h x hx => ?_, TP.gr_of⟩
  obtain ⟨i, hi, rfl⟩ := List.mem_iff_getElem.1 hx
  have := h i hi
  have e : p.n i = p.xs[i] := by simp [TP.n, hi]
  rw [e] at this
  exact this

/-- One step of the sum. -/
theorem sq_run {x y s : Nat} {a b t : Int} (hx : Wh x a) (hy : Wh y b) (hs : Gd 0 s t) (h0 : 0 ≤ t) (ht : t ≤ 1125899906842624) : ∃ d m r, (∀ (P : Program) (T : TypeId) (w : World), (binOp .sub T (.float .f64 x) (.float .f64 y)).run P w = .ok (.float .f64 d) w) ∧ (∀ (P : Program) (T : TypeId) (w : World), (binOp .mul T (.float .f64 d) (.float .f64 d)).run P w = .ok (.float .f64 m) w) ∧
    (∀ (P : Program) (T : TypeId) (w : World), (binOp .add T (.float .f64 s) (.float .f64 m)).run P w = .ok (.float .f64 r) w) ∧ Gd 0 r (t + (a - b) * (a - b)) := by
  have hab : (a - b).natAbs ≤ 2097152 := by have := hx.2; have := hy.2; omega
  obtain ⟨d, hd, gd⟩ := Gd.sub hx.1 hy.1 (by omega) (by omega)
  have h42 := sq_le42 hab
  have hnn := sq_nn (a - b)
  have hmul : ∃ m, Ieee.double.mul d d = some m ∧ Gd 0 m ((a - b) * (a - b)) := by
    have e : ((a - b : Int) : Rat) * p2 (-((0 : Nat) : Int)) = ((a - b : Int) : Rat) := by
      have : (-((0 : Nat) : Int)) = 0 := rfl
      rw [this, p2_zero, Rat.mul_one]
    have g1 : Is d ((a - b : Int) : Rat) := by have h := gd; unfold Gd at h; rw [e] at h; exact h
    have h := Is.mul g1 g1
    rw [← Rat.intCast_mul] at h
    obtain ⟨m, hm, im⟩ := h (rep_whole _ (by omega)) (by
      have h1 := int_lt_p2 ((a - b) * (a - b)) 53 (by have : (2 ^ 53 : Nat) = 9007199254740992 := by decide
                                                      omega)
      exact rlt_le h1 (p2_le (by omega)))
    exact ⟨m, hm, gd0_of_is im⟩
  obtain ⟨m, hm, gm⟩ := hmul
  obtain ⟨r, hr, gr⟩ := Gd.add hs gm (by omega) (by omega)
  exact ⟨d, m, r, fun P T w => run_float_arith w .sub T .f64 _ _ d hd, fun P T w => run_float_arith w .mul T .f64 _ _ m hm, fun P T w => run_float_arith w .add T .f64 _ _ r hr, gr⟩

set_option maxHeartbeats 2000000 in
theorem dist_at (w : World) (dims : Nat) (p q : TP) (hp : p.Ok w dims) (hq : q.Ok w dims) (gp : p.Gr) (gq : q.Gr) (hdm : dims ≤ 4) :
    Calls Tryz.prog 101 #[.slice p.A dims p.c, .iface 50 (.slice q.A dims q.c)] w fun e w' => (∃ r, e = .returned (.float .f64 r) ∧ Gd 0 r (sqx p.xs q.xs dims)) ∧ w = w' := by
  have hta := run_assert_pt
  have HH := Lib.hid (And.intro hp (And.intro hq (And.intro (TP.gr_iff.1 gp) (TP.gr_iff.1 gq))))
  have hz0 : Gd 0 0 0 := gd0_of_is is_zero
  have HZ0 := Lib.hid hz0
  clear hp hq gp gq hz0
  go_enter Tryz.func101, Tryz.ntmps101
  go_wp2
  go_loop [6, 14] (fun s i => ∃ k b : Nat, k ≤ dims ∧ i = .int .i64 k ∧ s = .float .f64 b ∧ Hid (Gd 0 b (sqx p.xs q.xs k))) (fun _ i => dims - (intOf i).toNat)
  case atStart => exact ⟨0, 0, Nat.zero_le _, rfl, rfl, HZ0.out⟩
  case round =>
    obtain ⟨k, b, hk, rfl, rfl, HR⟩ := hrel
    by_cases hlt : k < dims
    · obtain ⟨l1, s1⟩ := HH.out.1
      obtain ⟨l2, s2⟩ := HH.out.2.1
      rw [l1] at s1
      rw [l2] at s2
      obtain ⟨b1, o1, v1, e1, f1, c1⟩ := s1.at1 hlt
      obtain ⟨b2, o2, v2, e2, f2, c2⟩ := s2.at1 hlt
      rw [flts_getD (by omega)] at f1 f2
      cases f1
      cases f2
      have hxk : ∃ n, Wh (p.xs.getD k 0) n := HH.out.2.2.1 _ (mem_getD (by omega))
      have hyk : ∃ n, Wh (q.xs.getD k 0) n := HH.out.2.2.2 _ (mem_getD (by omega))
      have hle := sqx_le p.xs q.xs HH.out.2.2.1 HH.out.2.2.2 k (by omega) (by omega)
      obtain ⟨d, m, r, r1, r2, r3, hg⟩ := sq_run (zi_wh hxk) (zi_wh hyk) HR.out (sqx_nn _ _ _) (by omega)
      have HG : Hid (Gd 0 r (sqx p.xs q.xs (k + 1))) := hg
      rw [e1, e2]
      clear hg hle hxk hyk l1 l2 s1 s2 e1 e2
      generalize p.xs.getD k 0 = x at c1 r1
      generalize q.xs.getD k 0 = y at c2 r1
      go_wp2
      go_round
      case rel => exact ⟨k + 1, r, by omega, by go_num, rfl, HG⟩
      case measure => simp [intOf]; omega
    · obtain rfl : k = dims := by omega
      go_wp2
      go_ret
      exact ⟨⟨b, rfl, HR.out⟩, rfl⟩

theorem TP.Ok.drewN {w : World} {dims : Nat} {p : TP} (h : p.Ok w dims) (m : Nat) : p.Ok (w.drewN m) dims := h.mod0 ((Mod.refl _ _).drewN m)

set_option maxHeartbeats 4000000 in
theorem square_at (w : World) (dims : Nat) (p q : TP) (hp : p.Ok w dims) (hq : q.Ok w dims) (gp : p.Gr) (gq : q.Gr) (hdm : dims ≤ 4) :
    Calls Tryz.prog 26 #[.slice p.A dims p.c, .slice q.A dims q.c] w fun e w' => (∃ r, e = .returned (.float .f64 r) ∧ Gd 0 r (sqx p.xs q.xs dims)) ∧ ∃ m, w' = w.drewN m := by
  have HH := Lib.hid (And.intro hp (And.intro hq (And.intro (TP.gr_iff.1 gp) (TP.gr_iff.1 gq))))
  have hz0 : Gd 0 0 0 := gd0_of_is is_zero
  have HZ0 := Lib.hid hz0
  clear hp hq gp gq hz0
  go_enter Tryz.func26, Tryz.ntmps26
  go_wp2
  go_loopw [5, 10] (fun s i wr => ∃ k b m : Nat, k ≤ dims ∧ i = .int .i64 k ∧ s = .float .f64 b ∧ wr = w.drewN m ∧ Hid (Gd 0 b (sqx p.xs q.xs k))) (fun _ i _ => dims - (intOf i).toNat)
  case atStart => exact ⟨0, 0, 0, Nat.zero_le _, rfl, rfl, rfl, HZ0.out⟩
  case round =>
    obtain ⟨k, b, m, hk, rfl, rfl, rfl, HR⟩ := hrel
    by_cases hlt : k < dims
    · obtain ⟨l1, s1⟩ := HH.out.1
      obtain ⟨l2, s2⟩ := HH.out.2.1
      rw [l1] at s1
      rw [l2] at s2
      obtain ⟨b1, o1, v1, e1, f1, c1⟩ := s1.at1 hlt
      obtain ⟨b2, o2, v2, e2, f2, c2⟩ := s2.at1 hlt
      rw [flts_getD (by omega)] at f1 f2
      cases f1
      cases f2
      have hxk : ∃ n, Wh (p.xs.getD k 0) n := HH.out.2.2.1 _ (mem_getD (by omega))
      have hyk : ∃ n, Wh (q.xs.getD k 0) n := HH.out.2.2.2 _ (mem_getD (by omega))
      have hle := sqx_le p.xs q.xs HH.out.2.2.1 HH.out.2.2.2 k (by omega) (by omega)
      obtain ⟨d, mm, r, r1, r2, r3, hg⟩ := sq_run (zi_wh hxk) (zi_wh hyk) HR.out (sqx_nn _ _ _) (by omega)
      have HG : Hid (Gd 0 r (sqx p.xs q.xs (k + 1))) := hg
      rw [e1, e2]
      clear hg hle hxk hyk l1 l2 s1 s2 e1 e2
      generalize p.xs.getD k 0 = x at c1 r1
      generalize q.xs.getD k 0 = y at c2 r1
      have i0 : (0 : Int) ≤ k := by omega
      have i1 : (k : Int) < dims := by omega
      go_wp2
      go_quiet (fail)
      go_wp2
      go_roundw
      case rel => exact ⟨k + 1, r, m + nq, by omega, by go_num, rfl, by simp [World.drewN], HG⟩
      case measure => simp [intOf]; omega
    · obtain rfl : k = dims := by omega
      go_wp2
      go_ret
      exact ⟨⟨b, rfl, HR.out⟩, m, rfl⟩
end Go.Proofs.YtmeooadgdagiiaaGreat

namespace Go.Proofs.YtmeooadgdagiiaaGreat.K
open Go.RowKit Lox Go.Sort
set_option linter.unusedVariables false

/-- An element of a heap and its point. -/
abbrev XT := (Nat × Value) × TP

def IsP (q : TP) (dims : Nat) (t : XT) : Prop := DV t.1.1 (some (sqx q.xs t.2.xs dims)) ∧ t.1.2 = t.2.v

theorem fk_le {x y : Nat} {a b : Int} (hx : Gd 0 x a) (hy : Gd 0 y b) : fk x ≤ fk y ↔ a ≤ b := by
  have h1 := ord_le (x := x) (y := y) hx.1 hy.1
  rw [hx.lt hy, hx.eq hy] at h1
  constructor
  · intro h
    rw [decide_eq_true h] at h1
    simp only [Bool.or_eq_true, decide_eq_true_eq] at h1
    omega
  · intro h
    have h2 : (decide (a < b) || decide (a = b)) = true := by simp; omega
    rw [h2] at h1
    exact of_decide_eq_true h1.symm

theorem is_one : Is 4607182418800017408 1 := by
  have e : FloatKind.f64.decode 4607182418800017408 = .number false 4503599627370496 (-52) := by decide +kernel
  refine ⟨⟨_, _, _, e⟩, ?_⟩
  unfold vl
  rw [e]
  unfold dv
  dsimp only
  have h1 : p2 (-52) * p2 52 = p2 0 := by rw [← p2_add]; rfl
  have h2 : ((4503599627370496 : Nat) : Rat) = p2 52 := by
    have h52 : (52 : Int) = ((52 : Nat) : Int) := rfl
    rw [h52, p2_nat]
  rw [h2, Rat.mul_comm (p2 52), h1, p2_zero]
  simp [sg]

theorem ex_bits : ∀ n : Nat, n ≤ 1125899906842624 → ∃ r, Gd 0 r (n : Int) := by
  intro n
  induction n with
  | zero => intro _; exact ⟨0, gd0_of_is is_zero⟩
  | succ n ih =>
    intro h
    obtain ⟨r, hr⟩ := ih (by omega)
    have h1 : Gd 0 4607182418800017408 1 := gd0_of_is (by simpa using is_one)
    obtain ⟨r', _, hr'⟩ := Gd.add hr h1 (by decide) (by omega)
    exact ⟨r', by push_cast; exact hr'⟩

/-- A point of the right kind. -/
def GoodE (dims : Nat) (p : TP) : Prop := p.Gr ∧ p.xs.length = dims

theorem ex_isp {q p : TP} {dims : Nat} (hq : GoodE dims q) (hp : GoodE dims p) (hd : dims ≤ 4) : ∃ t : XT, IsP q dims t ∧ t.2 = p := by
  have h1 := sqx_le q.xs p.xs (TP.gr_iff.1 hq.1) (TP.gr_iff.1 hp.1) dims (by rw [hq.2]; omega) (by rw [hp.2]; omega)
  have h0 := sqx_nn q.xs p.xs dims
  obtain ⟨n, hn⟩ : ∃ n : Nat, sqx q.xs p.xs dims = (n : Int) := ⟨(sqx q.xs p.xs dims).toNat, by omega⟩
  obtain ⟨r, hr⟩ := ex_bits n (by omega)
  exact ⟨((r, p.v), p), ⟨⟨by rw [hn]; exact hr, h0, by show sqx q.xs p.xs dims ≤ _; omega⟩, rfl⟩, rfl⟩

theorem ex_isps {q : TP} {dims : Nat} (hq : GoodE dims q) (hd : dims ≤ 4) : ∀ es : List TP, (∀ e ∈ es, GoodE dims e) → ∃ ts : List XT, (∀ t ∈ ts, IsP q dims t) ∧ ts.map (·.2) = es := by
  intro es
  induction es with
  | nil => intro _; exact ⟨[], (fun t ht => absurd ht List.not_mem_nil), rfl⟩
  | cons e es ih =>
    intro h
    obtain ⟨t, h1, h2⟩ := ex_isp hq (h e List.mem_cons_self) hd
    obtain ⟨ts, h3, h4⟩ := ih fun x hx => h x (List.mem_cons_of_mem _ hx)
    refine ⟨t :: ts, ?_, by rw [List.map_cons, h2, h4]⟩
    intro x hx
    rcases List.mem_cons.1 hx with hx | hx
    · rw [hx]; exact h1
    · exact h3 x hx

theorem Kept.skip {n : Nat} {l : List El} {ds es : List (Nat × Value)} {m : Nat × Value} (hn : 0 < n) (h : Kept n l ds) (hm : at' l 0 = some m) (he : ∀ e ∈ es, fk m.1 ≤ fk e.1) : Kept n l (ds ++ es) := by
  have hfull : n ≤ ds.length := by
    rcases Nat.lt_or_ge ds.length n with hf | hf
    · have := heap_mem h.heap ((h.few hf).mem_iff.2 List.mem_cons_self)
      rw [hm] at this
      exact absurd this (by simp [leE])
    · exact hf
  refine ⟨h.heap, fun hf => by simp at hf; omega, fun _ => ?_⟩
  obtain ⟨ks, rest, h1, h2, h3, h4⟩ := h.full hfull
  refine ⟨ks, rest ++ es, h1, h2, by rw [← List.append_assoc]; exact h3.append_right es, fun a ha b hb => ?_⟩
  rcases List.mem_append.1 hb with hb | hb
  · exact h4 a ha b hb
  · have hk : leE (some a) (some m) := by rw [← hm]; exact heap_mem h.heap (h1.mem_iff.2 (List.mem_map.2 ⟨a, ha, rfl⟩))
    exact Int.le_trans hk (he b hb)

theorem D.KeptIn.skip {S : Nat} {l : List El} {ds es : List (Nat × Value)} (h : D.KeptIn S l ds) (he : ∀ e ∈ es, fk S < fk e.1) : D.KeptIn S l (ds ++ es) := by
  refine ⟨h.heap, ?_⟩
  have e : D.within S (ds ++ es) = D.within S ds := by
    unfold D.within
    have h0 : es.filter (fun d => decide (fk d.1 ≤ fk S)) = [] := List.filter_eq_nil_iff.2 fun x hx => by have := he x hx; simp; omega
    rw [List.filter_append, h0, List.append_nil]
  rw [e]
  exact h.perm

/-- A keeper of n holds what it should of these points. -/
def KeptP (q : TP) (dims n : Nat) (L : List El) (ps : List TP) : Prop := ∃ ts : List XT, (∀ t ∈ ts, IsP q dims t) ∧ ts.map (·.2) = ps ∧ Kept n L (ts.map (·.1))
def InP (q : TP) (dims S : Nat) (L : List El) (ps : List TP) : Prop := ∃ ts : List XT, (∀ t ∈ ts, IsP q dims t) ∧ ts.map (·.2) = ps ∧ D.KeptIn S L (ts.map (·.1))

theorem isp_snoc {q : TP} {dims : Nat} {ts : List XT} {t : XT} (h : ∀ t ∈ ts, IsP q dims t) (ht : IsP q dims t) : ∀ x ∈ ts ++ [t], IsP q dims x := fun x hx => by
  rcases List.mem_append.1 hx with hx | hx
  · exact h x hx
  · rw [List.mem_singleton.1 hx]; exact ht

theorem isp_app {q : TP} {dims : Nat} {ts us : List XT} (h : ∀ t ∈ ts, IsP q dims t) (hu : ∀ t ∈ us, IsP q dims t) : ∀ x ∈ ts ++ us, IsP q dims x := fun x hx => by
  rcases List.mem_append.1 hx with hx | hx
  · exact h x hx
  · exact hu x hx

theorem KeptP.keep {q p : TP} {dims n r : Nat} {L : List El} {ps : List TP} (hn : 0 < n) (h : KeptP q dims n L ps) (hr : DV r (some (sqx q.xs p.xs dims))) : KeptP q dims n (keepK n L (r, p.v)) (ps ++ [p]) := by
  obtain ⟨ts, h1, h2, h3⟩ := h
  exact ⟨ts ++ [((r, p.v), p)], isp_snoc h1 ⟨hr, rfl⟩, by rw [List.map_append, h2]; rfl, by rw [List.map_append]; exact keepK_ok _ hn h3⟩

theorem InP.keep {q p : TP} {dims S r : Nat} {L : List El} {ps : List TP} (h : InP q dims S L ps) (hr : DV r (some (sqx q.xs p.xs dims))) : InP q dims S (D.keepD S L (r, p.v)) (ps ++ [p]) := by
  obtain ⟨ts, h1, h2, h3⟩ := h
  exact ⟨ts ++ [((r, p.v), p)], isp_snoc h1 ⟨hr, rfl⟩, by rw [List.map_append, h2]; rfl, by rw [List.map_append]; exact D.keepD_ok _ h3⟩

theorem KeptP.skip {q : TP} {dims n cc : Nat} {c : Int} {L : List El} {ps es : List TP} {m : Nat × Value} (hq : GoodE dims q) (hd : dims ≤ 4) (hn : 0 < n) (h : KeptP q dims n L ps) (hm : at' L 0 = some m) (hc : DV cc (some c)) (hcm : fk m.1 < fk cc) (he : ∀ e ∈ es, GoodE dims e ∧ c ≤ sqx q.xs e.xs dims) : KeptP q dims n L (ps ++ es) := by
  obtain ⟨ts, h1, h2, h3⟩ := h
  obtain ⟨us, h4, h5⟩ := ex_isps hq hd es fun e hx => (he e hx).1
  refine ⟨ts ++ us, isp_app h1 h4, by rw [List.map_append, h2, h5], ?_⟩
  rw [List.map_append]
  refine Kept.skip hn h3 hm fun e hx => ?_
  obtain ⟨u, hu, rfl⟩ := List.mem_map.1 hx
  have h6 := (he u.2 (by rw [← h5]; exact List.mem_map.2 ⟨u, hu, rfl⟩)).2
  have := (fk_le hc.1 (h4 u hu).1.1).2 h6
  omega

theorem InP.skip {q : TP} {dims S cc : Nat} {c : Int} {L : List El} {ps es : List TP} (hq : GoodE dims q) (hd : dims ≤ 4) (h : InP q dims S L ps) (hc : DV cc (some c)) (hcm : fk S < fk cc) (he : ∀ e ∈ es, GoodE dims e ∧ c ≤ sqx q.xs e.xs dims) : InP q dims S L (ps ++ es) := by
  obtain ⟨ts, h1, h2, h3⟩ := h
  obtain ⟨us, h4, h5⟩ := ex_isps hq hd es fun e hx => (he e hx).1
  refine ⟨ts ++ us, isp_app h1 h4, by rw [List.map_append, h2, h5], ?_⟩
  rw [List.map_append]
  refine D.KeptIn.skip h3 fun e hx => ?_
  obtain ⟨u, hu, rfl⟩ := List.mem_map.1 hx
  have h6 := (he u.2 (by rw [← h5]; exact List.mem_map.2 ⟨u, hu, rfl⟩)).2
  have := (fk_le hc.1 (h4 u hu).1.1).2 h6
  omega

theorem KeptP.start {q : TP} {dims n : Nat} (hn : 0 < n) : KeptP q dims n [none] [] := ⟨[], (fun t ht => absurd ht List.not_mem_nil), rfl, Kept.start hn⟩
theorem InP.start {q : TP} {dims S : Nat} : InP q dims S [none] [] := ⟨[], (fun t ht => absurd ht List.not_mem_nil), rfl, D.KeptIn.start S⟩

/-- A permutation of a map is a map of a permutation. -/
theorem perm_map {α β : Type} {f : α → β} {l m : List β} (h : l.Perm m) : ∀ ts : List α, ts.map f = m → ∃ us : List α, us.Perm ts ∧ us.map f = l := by
  induction h with
  | nil => intro ts e; exact ⟨ts, .refl _, e⟩
  | cons x _ ih =>
    intro ts e
    cases ts with
    | nil => cases e
    | cons t ts =>
      obtain ⟨e1, e2⟩ := List.cons.inj e
      obtain ⟨us, h1, h2⟩ := ih ts e2
      exact ⟨t :: us, h1.cons _, by rw [List.map_cons, h2]; exact congrArg (· :: _) e1⟩
  | swap x y l =>
    intro ts e
    match ts, e with
    | a :: b :: ts, e =>
      obtain ⟨e1, e2⟩ := List.cons.inj e
      obtain ⟨e3, e4⟩ := List.cons.inj e2
      exact ⟨b :: a :: ts, .swap _ _ _, by rw [List.map_cons, List.map_cons]; exact congr (congrArg _ e3) (congr (congrArg _ e1) e4)⟩
    | [], e => cases e
    | [_], e => cases e
  | trans _ _ ih1 ih2 =>
    intro ts e
    obtain ⟨us, h1, h2⟩ := ih2 ts e
    obtain ⟨vs, h3, h4⟩ := ih1 us h2
    exact ⟨vs, h3.trans h1, h4⟩

/-- What a search for some points tells: those found in the order of their distances, and the rest, none of which is nearer. -/
structure Res (q : TP) (dims : Nat) (ts rest : List XT) (ps : List TP) : Prop where
  isp : ∀ t ∈ ts ++ rest, IsP q dims t
  perm : ((ts ++ rest).map (·.2)).Perm ps
  up : (ts.map fun t => sqx q.xs t.2.xs dims).Pairwise (· ≤ ·)
  far : ∀ a ∈ ts, ∀ b ∈ rest, sqx q.xs a.2.xs dims ≤ sqx q.xs b.2.xs dims

theorem upE_some {l : List El} {q : TP} {dims : Nat} {us : List XT} {tl : List El} (h : UpE l) (he : l = us.map (fun t => some t.1) ++ tl) (hu : ∀ t ∈ us, IsP q dims t) : (us.map fun t => sqx q.xs t.2.xs dims).Pairwise (· ≤ ·) := by
  rw [List.pairwise_map, List.pairwise_iff_getElem]
  intro i j hi hj hij
  have hl : us.length ≤ l.length := by rw [he]; simp
  have hat : ∀ k (hk : k < us.length), at' l k = some us[k].1 := fun k hk => by
    unfold at'
    rw [he, List.getD_eq_getElem?_getD, List.getElem?_append_left (by simpa using hk)]
    simp [hk]
  have h1 := h i j hij (by omega)
  rw [hat i hi, hat j hj] at h1
  have h2 : ¬ fk us[j].1.1 < fk us[i].1.1 := of_decide_eq_false h1
  exact (fk_le (hu _ (List.getElem_mem hi)).1.1 (hu _ (List.getElem_mem hj)).1.1).1 (by omega)

/-- In an ordered heap the mark stands last. -/
theorem upE_mark {l : List El} {ds : List (Nat × Value)} (h : UpE l) (hp : l.Perm (none :: ds.map some)) : ∃ xs : List (Nat × Value), l = xs.map some ++ [none] ∧ xs.Perm ds := by
  have hlen : l.length = ds.length + 1 := by have := hp.length_eq; simpa using this
  have hlast : at' l ds.length = none := by
    have hm : (none : El) ∈ l := hp.mem_iff.2 List.mem_cons_self
    obtain ⟨i, hi, e⟩ := List.getElem_of_mem hm
    have ei : at' l i = none := by unfold at'; rw [List.getD_eq_getElem?_getD, List.getElem?_eq_getElem hi, e]; rfl
    by_cases h2 : i = ds.length
    · rw [← h2]; exact ei
    · have h3 := h i ds.length (by omega) (by omega)
      rw [ei] at h3
      cases h4 : at' l ds.length with
      | none => rfl
      | some d => rw [h4] at h3; exact absurd h3 (by simp [ltR])
  have hsplit : l = l.take ds.length ++ [none] := by
    have hg : l[ds.length]'(by omega) = none := by
      unfold at' at hlast
      rw [List.getD_eq_getElem?_getD, List.getElem?_eq_getElem (by omega)] at hlast
      exact hlast
    rw [← hg, ← List.take_succ_eq_append_getElem (by omega), List.take_of_length_le (by omega)]
  have hp2 : (l.take ds.length).Perm (ds.map some) := by
    have h4 : (none :: l.take ds.length).Perm (none :: ds.map some) := by
      have := List.perm_append_comm (l₁ := l.take ds.length) (l₂ := [(none : El)])
      rw [← hsplit] at this
      exact this.symm.trans hp
    exact h4.cons_inv
  obtain ⟨xs, h5, h6⟩ := perm_map hp2 ds rfl
  exact ⟨xs, by rw [h6]; exact hsplit, h5⟩

theorem oneE_perm {l m : List El} (h : l.Perm m) (hm : m.countP Option.isNone ≤ 1) : OneE l := by
  intro i j hi hj h1 h2
  rcases Nat.lt_trichotomy i j with hij | hij | hij
  · exfalso
    have := two_none hij hj h1 h2
    rw [h.countP_eq] at this
    omega
  · exact hij
  · exfalso
    have := two_none hij hi h2 h1
    rw [h.countP_eq] at this
    omega
where
  two_none {l : List El} {i j : Nat} (hij : i < j) (hj : j < l.length) (h1 : at' l i = none) (h2 : at' l j = none) : 2 ≤ l.countP Option.isNone := by
    have e1 : l[i]'(by omega) = none := by
      unfold at' at h1
      rw [List.getD_eq_getElem?_getD, List.getElem?_eq_getElem (by omega)] at h1
      exact h1
    have e2 : l[j]'hj = none := by
      unfold at' at h2
      rw [List.getD_eq_getElem?_getD, List.getElem?_eq_getElem hj] at h2
      exact h2
    have hs : l = l.take (i + 1) ++ l.drop (i + 1) := (List.take_append_drop _ _).symm
    rw [hs, List.countP_append]
    have a1 : 0 < (l.take (i + 1)).countP Option.isNone := List.countP_pos_iff.2 ⟨none, by rw [List.take_succ_eq_append_getElem (by omega), e1]; simp, rfl⟩
    have a2 : 0 < (l.drop (i + 1)).countP Option.isNone := List.countP_pos_iff.2 ⟨none, by
      have : (l.drop (i + 1))[j - (i + 1)]'(by simp; omega) = none := by
        rw [List.getElem_drop]
        have : i + 1 + (j - (i + 1)) = j := by omega
        simp only [this, e2]
      rw [← this]
      exact List.getElem_mem _, rfl⟩
    omega
end Go.Proofs.YtmeooadgdagiiaaGreat.K

namespace Go.Proofs.YtmeooadgdagiiaaGreat.K
open Go.RowKit Lox Go.Sort
set_option linter.unusedVariables false

/-- The elements of a list of points. -/
def elsX (ts : List XT) : List El := ts.map fun t => some t.1

theorem one_mark (l : List (Nat × Value)) : (l.map some).countP (Option.isNone (α := Nat × Value)) = 0 := List.countP_eq_zero.2 fun x hx => by
  obtain ⟨a, _, rfl⟩ := List.mem_map.1 hx
  simp

theorem KeptP.one {q : TP} {dims n : Nat} {L : List El} {ps : List TP} (h : KeptP q dims n L ps) : OneE L := by
  obtain ⟨ts, h1, h2, h3⟩ := h
  rcases Nat.lt_or_ge (ts.map (·.1)).length n with hf | hf
  · exact oneE_perm (h3.few hf) (by rw [List.countP_cons, one_mark]; simp)
  · obtain ⟨ks, rest, h4, _⟩ := h3.full hf
    exact oneE_perm h4 (by rw [one_mark]; omega)

theorem InP.one {q : TP} {dims S : Nat} {L : List El} {ps : List TP} (h : InP q dims S L ps) : OneE L := by
  obtain ⟨ts, h1, h2, h3⟩ := h
  exact oneE_perm h3.perm (by rw [List.countP_cons, one_mark]; simp)

theorem KeptP.fin {q : TP} {dims n : Nat} {L els : List El} {ps : List TP} (hn : 0 < n) (h : KeptP q dims n L ps) (hp : els.Perm L) (hu : UpE els) :
    ∃ ts rest, Res q dims ts rest ps ∧ ts.length = min n ps.length ∧ ((at' L 0 = none ∧ els = elsX ts ++ [none]) ∨ (at' L 0 ≠ none ∧ els = elsX ts)) := by
  obtain ⟨ts, h1, h2, h3⟩ := h
  have hlen : ts.length = ps.length := by rw [← h2, List.length_map]
  rcases Nat.lt_or_ge (ts.map (·.1)).length n with hf | hf
  · have hL := h3.few hf
    rw [List.length_map] at hf
    have htop : at' L 0 = none := by
      have := heap_mem h3.heap (hL.mem_iff.2 List.mem_cons_self)
      cases ht : at' L 0 with
      | none => rfl
      | some m => rw [ht] at this; exact absurd this (by simp [leE])
    obtain ⟨xs, h4, h5⟩ := upE_mark hu (hp.trans hL)
    obtain ⟨us, h6, h7⟩ := perm_map h5 ts rfl
    have hus : ∀ t ∈ us, IsP q dims t := fun t ht => h1 t (h6.mem_iff.1 ht)
    have he : els = elsX us ++ [none] := by rw [h4, ← h7, List.map_map]; rfl
    exact ⟨us, [], ⟨by rw [List.append_nil]; exact hus, by rw [List.append_nil, ← h2]; exact h6.map _, upE_some hu he hus, fun a _ b hb => absurd hb List.not_mem_nil⟩, by rw [h6.length_eq]; omega, .inl ⟨htop, he⟩⟩
  · obtain ⟨ks, rest, h4, h5, h6, h7⟩ := h3.full hf
    rw [List.length_map] at hf
    obtain ⟨us, h8, h9⟩ := perm_map h6 ts rfl
    obtain ⟨u1, u2, rfl, h10, h11⟩ := List.map_eq_append_iff.1 h9
    have hall : ∀ t ∈ u1 ++ u2, IsP q dims t := fun t ht => h1 t (h8.mem_iff.1 ht)
    have hpe : els.Perm (ks.map some) := hp.trans h4
    obtain ⟨xs, h12, h13⟩ := perm_map hpe ks rfl
    rw [← h10] at h12
    obtain ⟨v1, h14, h15⟩ := perm_map h12 u1 rfl
    have hv : ∀ t ∈ v1 ++ u2, IsP q dims t := fun t ht => hall t (by
      rcases List.mem_append.1 ht with ht | ht
      · exact List.mem_append_left _ (h14.mem_iff.1 ht)
      · exact List.mem_append_right _ ht)
    have he : els = elsX v1 := by rw [← h13, ← h15, List.map_map]; rfl
    have hkl : u1.length = n := by have := congrArg List.length h10; rw [List.length_map] at this; omega
    have htop : at' L 0 ≠ none := by
      intro ht
      have hLl : 0 < L.length := by rw [h4.length_eq, List.length_map]; omega
      have hm : (none : El) ∈ L := by
        unfold at' at ht
        rw [List.getD_eq_getElem?_getD, List.getElem?_eq_getElem hLl] at ht
        have ht : L[0] = none := ht
        rw [← ht]
        exact List.getElem_mem _
      have := h4.mem_iff.1 hm
      simp at this
    refine ⟨v1, u2, ⟨hv, ?_, upE_some (tl := []) hu (by rw [List.append_nil]; exact he) (fun t ht => hv t (List.mem_append_left _ ht)), fun a ha b hb => ?_⟩, by rw [h14.length_eq, hkl]; omega, .inr ⟨htop, he⟩⟩
    · rw [← h2]
      exact ((h14.append_right u2).trans h8).map _
    · have ha' := h14.mem_iff.1 ha
      have h16 := h7 a.1 (by rw [← h10]; exact List.mem_map.2 ⟨a, ha', rfl⟩) b.1 (by rw [← h11]; exact List.mem_map.2 ⟨b, hb, rfl⟩)
      exact (fk_le (hall a (List.mem_append_left _ ha')).1.1 (hall b (List.mem_append_right _ hb)).1.1).1 h16

theorem InP.fin {q : TP} {dims S : Nat} {L els : List El} {ps : List TP} (h : InP q dims S L ps) (hp : els.Perm L) (hu : UpE els) :
    ∃ ts rest, Res q dims ts rest ps ∧ (∀ t ∈ ts, fk t.1.1 ≤ fk S) ∧ (∀ t ∈ rest, fk S < fk t.1.1) ∧ at' L 0 = none ∧ els = elsX ts ++ [none] := by
  obtain ⟨ts, h1, h2, h3⟩ := h
  have hL := h3.perm
  obtain ⟨xs, h4, h5⟩ := upE_mark hu (hp.trans hL)
  have hw : (ts.filter fun t => decide (fk t.1.1 ≤ fk S)).map (·.1) = D.within S (ts.map (·.1)) := by
    unfold D.within
    rw [List.filter_map]
    rfl
  obtain ⟨us, h6, h7⟩ := perm_map h5 _ hw
  have hsub : ∀ t ∈ us, t ∈ ts ∧ fk t.1.1 ≤ fk S := fun t ht => by
    have := List.mem_filter.1 (h6.mem_iff.1 ht)
    exact ⟨this.1, of_decide_eq_true this.2⟩
  have hrest : ∀ t ∈ ts.filter (fun t => !decide (fk t.1.1 ≤ fk S)), t ∈ ts ∧ fk S < fk t.1.1 := fun t ht => by
    have := List.mem_filter.1 ht
    refine ⟨this.1, ?_⟩
    have h8 := this.2
    simp at h8
    exact h8
  have he : els = elsX us ++ [none] := by rw [h4, ← h7, List.map_map]; rfl
  have hall : ∀ t ∈ us ++ ts.filter (fun t => !decide (fk t.1.1 ≤ fk S)), IsP q dims t := fun t ht => by
    rcases List.mem_append.1 ht with ht | ht
    · exact h1 t (hsub t ht).1
    · exact h1 t (hrest t ht).1
  refine ⟨us, ts.filter (fun t => !decide (fk t.1.1 ≤ fk S)), ⟨hall, ?_, upE_some hu he (fun t ht => h1 t (hsub t ht).1), fun a ha b hb => ?_⟩, fun t ht => (hsub t ht).2, fun t ht => (hrest t ht).2, h3.top, he⟩
  · rw [← h2]
    exact ((h6.append_right _).trans (List.filter_append_perm _ _)).map _
  · have h8 := (hsub a ha).2
    have h9 := (hrest b hb).2
    exact (fk_le (h1 a (hsub a ha).1).1.1 (h1 b (hrest b hb).1).1.1).1 (by omega)
end Go.Proofs.YtmeooadgdagiiaaGreat.K

namespace Go.Proofs.YtmeooadgdagiiaaGreat
open Go.RowKit Lox
set_option linter.unusedVariables false
attribute [local go_sem] run_store_flt run_store_fn

theorem info_kpoint : (Tryz.prog.info? 50).map (fun i => (i.zero, i.size, i.bytes)) = some (some (.slice none 0 0), 1, 24) := by kernel_rfl

/-- Points that came in, as a row of rows. -/
def PRows (w : World) (O : Option Addr) (n : Nat) (ps : List TP) (dims : Nat) : Prop := Sl w O n 1 (ps.map TP.v) ∧ (∀ p ∈ ps, p.Rd w ∧ p.xs.length = dims)

theorem PRows.mod {w w' : World} {O : Option Addr} {n dims : Nat} {ps : List TP} (h : PRows w O n ps dims) (hm : Mod (fun _ => False) w w') : PRows w' O n ps dims := ⟨h.1.mod hm, fun p hp => ⟨(h.2 p hp).1.mod hm, (h.2 p hp).2⟩⟩

theorem PRows.len {w : World} {O : Option Addr} {n dims : Nat} {ps : List TP} (h : PRows w O n ps dims) : ps.length = n := by have := h.1.1; simpa using this

/-- Points that have been copied so far, in a row v of their own. -/
structure KP (w w' : World) (dims : Nat) (v : Value) (ps qs : List TP) : Prop where
  own : w'.ownsRow w.heap.size 50 1 v qs.length (qs.map TP.v)
  same : qs.map TP.xs = ps.map TP.xs
  ok : ∀ p ∈ qs, p.Ok w' dims ∧ ∀ b o, p.A = some ⟨b, o, none⟩ → w.heap.size ≤ b ∧ v.ownBlock ≠ some b
  mod : Mod (fun _ => False) w w'

theorem KP.step {w w' w1 w3 : World} {dims : Nat} {v : Value} {ps qs : List TP} {p : TP} {A2 : Option Addr} {c2 g cap : Nat} (h : KP w w' dims v ps qs) (hdm : 0 < dims) (hp : p.xs.length = dims) (hm : Mod (fun _ => False) w' w1) (hs : Sl w1 A2 dims 1 (flts p.xs))
    (hA : ∀ b o, A2 = some ⟨b, o, none⟩ → w'.heap.size ≤ b) {o : Obj} (hown : w3.ownsRow w.heap.size 50 1 (.slice (some ⟨g, 0, none⟩) (qs.length + 1) cap) (qs.length + 1) (qs.map TP.v ++ [.slice A2 dims c2]))
    (hgrow : (w1.alloc o).grownBy w3 v.ownBlock) (hat : v.ownBlock = some g ∨ g = w1.heap.size + 1) (hob : ∀ b, v.ownBlock = some b → w.heap.size ≤ b ∧ b < w'.heap.size) :
    KP w w3 dims (.slice (some ⟨g, 0, none⟩) (qs.length + 1) cap) (ps ++ [p]) (qs ++ [⟨A2, c2, p.xs⟩]) := by
  have hs1 := hm.size
  have hs0 := h.mod.size
  have keep : ∀ q : TP, q.Ok w1 dims → (∀ b o, q.A = some ⟨b, o, none⟩ → v.ownBlock ≠ some b) → q.Ok w3 dims := by
    intro q hq hne
    refine ⟨hq.1, hq.2.1, fun h0 => ?_⟩
    obtain ⟨b, o', e, hc⟩ := hq.2.2 h0
    refine ⟨b, o', e, fun j u hu => ?_⟩
    have hcj := hc j u hu
    have hlt := lt_of_cell hcj
    exact (hgrow.cell_far _ (by rw [World.size_alloc]; exact Nat.lt_succ_of_lt hlt) (Ne.symm (hne b o' e))).trans ((World.cell?_alloc_past _ _ _ hlt).trans hcj)
  refine ⟨by rw [List.length_append, List.map_append]; simpa [TP.v, hp] using hown, by simp [h.same], ?_, ?_⟩
  · intro q hq
    rcases List.mem_append.1 hq with hq | hq
    · obtain ⟨k1, k2⟩ := h.ok q hq
      refine ⟨keep q ⟨k1.1, k1.2.mod hm⟩ (fun b o e => (k2 b o e).2), fun b o e => ⟨(k2 b o e).1, fun e2 => ?_⟩⟩
      have e2 : some g = some b := e2
      injection e2 with e2
      subst e2
      have hlt : g < w'.heap.size := (k1.2.far (by omega)) (by rw [k1.1]; exact hdm) g o e
      rcases hat with h1 | h1
      · exact (k2 g o e).2 h1
      · omega
    · rw [List.mem_singleton.1 hq]
      refine ⟨keep _ ⟨hp, by rw [hp]; exact hs⟩ (fun b o e h1 => ?_), fun b o e => ⟨by have := hA b o e; omega, fun e2 => ?_⟩⟩
      · have := hA b o e
        have := (hob b h1).2
        omega
      · have e2 : some g = some b := e2
        injection e2 with e2
        subst e2
        have h2 := hA g o e
        have hlt : g < w1.heap.size := (hs.far (by omega)) hdm g o e
        rcases hat with h1 | h1
        · have := (hob g h1).2; omega
        · omega
  · exact ((h.mod.trans hm).alloc o).grown hgrow (fun k e hk => by have := (hob k e).1; omega)

/-- What kpoints tells. -/
def KpTold (dims n : Nat) (ps : List TP) (w : World) (e : Ending) (w' : World) : Prop :=
  ∃ (X : Option Addr) (c pb : Nat) (qs : List TP), e = .returned (.slice X n c) ∧ qs.length = n ∧ qs.map TP.xs = ps.map TP.xs ∧ n ≤ c ∧ c ≤ 9223372036854775807 ∧ Mod (fun _ => False) w w' ∧ w.heap.size ≤ pb ∧
    (0 < n → X = some ⟨pb, 0, none⟩ ∧ TPs w' pb qs) ∧ ∀ p ∈ qs, p.Okp w' dims pb ∧ ∀ b o, p.A = some ⟨b, o, none⟩ → w.heap.size ≤ b

theorem own_block {w : World} {B e size n : Nat} {v : Value} {xs : List Value} (h : w.ownsRow B e size v n xs) {b : Nat} (hb : v.ownBlock = some b) : B ≤ b ∧ b < w.heap.size := by
  rcases h.2 with ⟨rfl, h0⟩ | ⟨g, cap, cur, e1, hB, hg, hc⟩
  · cases hb
  · subst e1
    have hb : some g = some b := hb
    injection hb with hb
    subst hb
    exact ⟨hB, (Array.getElem?_eq_some_iff.1 hg).1⟩

theorem KP.told {w w' : World} {dims : Nat} {v : Value} {ps qs : List TP} (h : KP w w' dims v ps qs) : KpTold dims ps.length ps w (.returned v) w' := by
  have hl : qs.length = ps.length := by have := congrArg List.length h.same; simpa using this
  have hs := h.mod.size
  rcases h.own.2 with ⟨rfl, h0⟩ | ⟨g, cap, cur, e1, hB, hg, hc, hcm, hsz, ht⟩
  · have : qs = [] := List.length_eq_zero_iff.1 h0
    subst this
    exact ⟨none, 0, w.heap.size, [], by rw [← hl]; rfl, hl, h.same, by rw [← hl]; exact Nat.le_refl _, by omega, h.mod, Nat.le_refl _, fun h => by rw [← hl] at h; exact absurd h (by simp), fun p hp => by cases hp⟩
  · subst e1
    rw [Nat.mul_one] at ht
    refine ⟨_, cap, g, qs, by rw [hl], hl, h.same, by omega, by unfold maxLen at hcm; exact hcm, h.mod, hB, fun _ => ⟨rfl, cur.toList.drop qs.length, ?_⟩, fun p hp => ⟨⟨(h.ok p hp).1, fun b o e e2 => ((h.ok p hp).2 b o e).2 (by rw [e2]; rfl)⟩, fun b o e => ((h.ok p hp).2 b o e).1⟩⟩
    unfold Blk
    rw [← ht, List.take_append_drop]
    exact hg

set_option maxHeartbeats 4000000 in
theorem kpoints_at (O : Option Addr) (n c dims : Nat) (ps : List TP) (w : World) (h : PRows w O n ps dims) (hn : n ≤ 1099511627776) (hdm : 0 < dims ∧ dims ≤ 1099511627776) :
    Calls Tryz.prog 16 #[.slice O n c] w (KpTold dims n ps w) := by
  obtain ⟨i0, hi0, hz0, hz1, hz2⟩ := info_parts info_kpoint
  have HI := Lib.hid (And.intro hi0 (And.intro hz0 (And.intro hz1 hz2)))
  clear hi0 hz0 hz1 hz2
  have hl := h.len
  have HH := Lib.hid (And.intro h hl)
  clear h hl
  go_enter Tryz.func16, Tryz.ntmps16
  go_wp2_with fail
  go_loopw [3, 8] (fun v i w' => ∃ (k : Nat) (qs : List TP), k ≤ n ∧ i = .int .i64 k ∧ Hid (KP w w' dims v (ps.take k) qs ∧ qs.length = k)) (fun _ i _ => n - (intOf i).toNat)
  case atStart => exact ⟨0, [], Nat.zero_le _, rfl, ⟨World.ownsRow_nil _ _ _ _, rfl, fun p hp => (by cases hp), Mod.refl _ _⟩, rfl⟩
  case round =>
    obtain ⟨k, qs, hk, rfl, HR⟩ := hrel
    by_cases hlt : k < n
    · obtain ⟨b, o, v0, e1, e2, c1⟩ := (HH.out.1.mod HR.out.1.mod).1.at1 hlt
      have hk2 : k < ps.length := by rw [HH.out.2]; exact hlt
      obtain ⟨p, ep⟩ : ∃ p, p = ps[k] := ⟨_, rfl⟩
      have hpm : p ∈ ps := by rw [ep]; exact List.getElem_mem hk2
      have hTK : ps.take (k + 1) = ps.take k ++ [p] := by rw [List.take_succ_eq_append_getElem hk2, ep]
      have e3 : (ps.map TP.v)[k]? = some p.v := by rw [ep]; simp [hk2]
      rw [e3] at e2
      cases e2
      obtain ⟨hrd, hpl⟩ := (HH.out.1.mod HR.out.1.mod).2 p hpm
      have c2 : wr.cell? ⟨b, o + k, none⟩ = some (.slice p.A dims p.c) := by rw [c1, ← hpl]; rfl
      have hsl : Sl wr p.A dims 1 (flts p.xs) := by rw [← hpl]; exact hrd.1
      have HS := Lib.hid (And.intro hsl (And.intro hpl (And.intro hTK (fun b hb => own_block HR.out.1.own (b := b) hb))))
      subst e1
      clear ep hpm hTK e3 c1 hrd hpl hsl hk2
      have i0' : (0 : Int) ≤ k := by omega
      have i1' : (k : Int) < n := by omega
      go_wp2_with (first
        | (go_at_call 18; refine (floats_any p.A dims p.c p.xs _ HS.out.1 hdm.2 hdm.1).mono ?_; rintro _ w1 ⟨A2, cc2, rfl, hs2, hm2, hb2⟩; have HW := Lib.hid (And.intro hs2 (And.intro hm2 hb2)); clear hs2 hm2 hb2)
        | (at_builtin; refine wpList_append_lies _ (by rfl) (.tmp 12) (.tmp 15) 44 (by rfl) w.heap.size 50 i0 _ 1 24 Tryz.underlying44 HI.out.1 HI.out.2.1 HI.out.2.2.1 HI.out.2.2.2 rfl (by omega) u3 qs.length (qs.map TP.v) (by rfl) ((HR.out.1.own.kept HW.out.2.1.grownBy (Decidable.em _)).alloc _) ⟨w1.heap.size, 0, none⟩ 1 1 [.slice A2 dims cc2] (by rfl) (by rfl) (World.news_of_block (cs := #[.slice A2 dims cc2]) (t := 50) (fr := (0, 0)) (heap_alloc_new w1 _)) (by simp [Value.oneCell']) (by omega) (by have := HR.out.2; unfold maxLen; omega) (by have := HR.out.2; omega) (by have := HR.out.1.mod.size; have := HW.out.2.1.size; simp; omega) (w1.heap.size + 1) (by simp) ?_; intro gg cap w3 hown3 hgrow hat hlt3; have HG := Lib.hid (And.intro hown3 (And.intro hgrow hat)); clear hown3 hgrow hat))
      go_roundw
      case rel =>
        refine ⟨k + 1, qs ++ [⟨A2, cc2, p.xs⟩], by omega, by go_num, ?_, by simp [HR.out.2]⟩
        rw [HS.out.2.2.1]
        exact HR.out.1.step hdm.1 HS.out.2.1 HW.out.2.1 HW.out.1 HW.out.2.2 HG.out.1 HG.out.2.1 HG.out.2.2 HS.out.2.2.2
      case measure => simp [intOf]; omega
    · obtain rfl : k = n := by omega
      go_wp2_with fail
      go_ret
      have h1 := HR.out.1
      rw [List.take_of_length_le (by rw [HH.out.2]; exact Nat.le_refl _)] at h1
      have h2 := h1.told
      rw [HH.out.2] at h2
      exact h2
end Go.Proofs.YtmeooadgdagiiaaGreat

namespace Go.Proofs.YtmeooadgdagiiaaGreat
open Go.RowKit Lox
set_option linter.unusedVariables false

/-- A node of a k-d tree that is written down, as plain data. -/
structure PR where
  xs : List Nat
  pl : Nat
  l : Int
  r : Int
  mn : List Nat
  mx : List Nat
deriving DecidableEq

/-- A node that is written down, in memory. -/
structure KR where
  p : TP
  pl : Nat
  l : Int
  r : Int
  mn : TP
  mx : TP

def KR.cells (x : KR) : List Value := [x.p.v, .int .i64 x.pl, .int .i64 x.l, .int .i64 x.r, x.mn.v, x.mx.v]
def KR.plain (x : KR) : PR := ⟨x.p.xs, x.pl, x.l, x.r, x.mn.xs, x.mx.xs⟩

def MT.count : MT → Nat
  | .nil => 0
  | .node _ _ _ _ l r => 1 + l.count + r.count

def boxMn : Option BX → List Nat
  | none => []
  | some b => b.mn.xs
def boxMx : Option BX → List Nat
  | none => []
  | some b => b.mx.xs

/-- Where a tree stands that is written down from place i on. -/
def MT.at (i : Nat) : MT → Int
  | .nil => -1
  | .node _ _ _ _ _ _ => i

/-- A tree written down from place i on: the node, what is on its left, what is on its right. -/
def MT.flat : Nat → MT → List PR
  | _, .nil => []
  | i, .node _ p d bx l r => ⟨p.xs, d, l.at (i + 1), r.at (i + 1 + l.count), boxMn bx, boxMx bx⟩ :: (l.flat (i + 1) ++ r.flat (i + 1 + l.count))

theorem MT.flat_len : ∀ (t : MT) (i : Nat), (t.flat i).length = t.count := by
  intro t
  induction t with
  | nil => intro i; rfl
  | node g p d bx l r ihl ihr => intro i; simp only [MT.flat, MT.count, List.length_cons, List.length_append, ihl, ihr]; omega

theorem flat6_len (rs : List KR) : (rs.flatMap KR.cells).length = rs.length * 6 := by
  induction rs with
  | nil => rfl
  | cons x rs ih => simp only [List.flatMap_cons, List.length_append, List.length_cons, ih, KR.cells, List.length_nil]; omega

theorem flat6_get (rs : List KR) (i j : Nat) (x : KR) (hx : rs[i]? = some x) (hj : j < 6) : (rs.flatMap KR.cells)[i * 6 + j]? = x.cells[j]? := by
  induction rs generalizing i with
  | nil => simp at hx
  | cons y rs ih =>
    rw [List.flatMap_cons]
    have hy : y.cells.length = 6 := rfl
    cases i with
    | zero =>
      simp only [List.getElem?_cons_zero, Option.some.injEq] at hx
      subst hx
      rw [Nat.zero_mul, Nat.zero_add, List.getElem?_append_left (by omega)]
    | succ i =>
      rw [List.getElem?_append_right (by omega), hy]
      have e : (i + 1) * 6 + j - 6 = i * 6 + j := by omega
      rw [e]
      exact ih i (by simpa using hx)

theorem flat6_set (rs : List KR) (i j : Nat) (x y : KR) (v : Value) (hx : rs[i]? = some x) (hy : y.cells = x.cells.set j v) (hj : j < 6) : (rs.flatMap KR.cells).set (i * 6 + j) v = (rs.set i y).flatMap KR.cells := by
  induction rs generalizing i with
  | nil => simp at hx
  | cons z rs ih =>
    have hz : z.cells.length = 6 := rfl
    cases i with
    | zero =>
      simp only [List.getElem?_cons_zero, Option.some.injEq] at hx
      subst hx
      rw [List.flatMap_cons, Nat.zero_mul, Nat.zero_add, List.set_append_left _ _ (by omega), List.set_cons_zero, List.flatMap_cons, hy]
    | succ i =>
      rw [List.flatMap_cons, List.set_append_right _ _ (by omega), hz, List.set_cons_succ, List.flatMap_cons]
      have e : (i + 1) * 6 + j - 6 = i * 6 + j := by omega
      rw [e, ih i (by simpa using hx)]

theorem own_set_at {w : World} {B : Nat} {e : TypeId} {size g n cap i : Nat} {xs : List Value} (h : w.ownsRow B e size (.slice (some ⟨g, 0, none⟩) n cap) n xs) (u : Value) :
    (w.setCell ⟨g, i, none⟩ u).ownsRow B e size (.slice (some ⟨g, 0, none⟩) n cap) n (xs.set i u) := by
  refine ⟨by rw [List.length_set]; exact h.1, ?_⟩
  rcases h.2 with ⟨e1, _⟩ | ⟨g', cap', cur, e1, hB, hg, hc, hcm, hsz, ht⟩
  · cases e1
  · cases e1
    have hb : Blk w g e cur.toList := by unfold Blk; simpa using hg
    have hs := hb.set i u
    refine .inr ⟨g, cap, (cur.toList.set i u).toArray, rfl, hB, hs, hc, hcm, by simp [hsz], ?_⟩
    simp only [List.take_set, ht]

/-- A point that is a node's own: no box's point, or one of dims coordinates, in a block apart from the row. -/
def TP.Own (B : Nat) (w : World) (dims : Nat) (v : Value) (p : TP) : Prop := p.Ok w dims ∧ ∀ b o, p.A = some ⟨b, o, none⟩ → B ≤ b ∧ v.ownBlock ≠ some b
def TP.Own0 (B : Nat) (w : World) (dims : Nat) (v : Value) (p : TP) : Prop := p = ⟨none, 0, []⟩ ∨ p.Own B w dims v

/-- Nodes that are written down, in a row v of their own. -/
structure KS (B : Nat) (w : World) (dims : Nat) (v : Value) (rs : List KR) : Prop where
  own : w.ownsRow B 91 6 v rs.length (rs.flatMap KR.cells)
  ok : ∀ x ∈ rs, x.p.Own B w dims v ∧ x.mn.Own0 B w dims v ∧ x.mx.Own0 B w dims v

theorem KS.nil (B : Nat) (w : World) (dims : Nat) : KS B w dims (.slice none 0 0) [] := ⟨World.ownsRow_nil _ _ _ _, fun x hx => by cases hx⟩


theorem TP.Own.keep {B : Nat} {w w' : World} {dims : Nat} {v : Value} {p : TP} (h : p.Own B w dims v) (hk : ∀ k, k < w.heap.size → v.ownBlock ≠ some k → w'.heap[k]? = w.heap[k]?) : p.Own B w' dims v := by
  refine ⟨⟨h.1.1, h.1.2.1, fun h0 => ?_⟩, h.2⟩
  obtain ⟨b, o, e, hc⟩ := h.1.2.2 h0
  exact ⟨b, o, e, fun j u hu => (World.cell?_of_block (w := w) (hk b (lt_of_cell (hc j u hu)) (h.2 b o e).2)).trans (hc j u hu)⟩

theorem TP.Own0.keep {B : Nat} {w w' : World} {dims : Nat} {v : Value} {p : TP} (h : p.Own0 B w dims v) (hk : ∀ k, k < w.heap.size → v.ownBlock ≠ some k → w'.heap[k]? = w.heap[k]?) : p.Own0 B w' dims v :=
  h.imp id fun h => h.keep hk

theorem KS.mod {B : Nat} {w w' : World} {dims : Nat} {v : Value} {rs : List KR} (h : KS B w dims v rs) (hm : Mod (fun _ => False) w w') : KS B w' dims v rs :=
  ⟨h.own.kept hm.grownBy (Decidable.em _), fun x hx => ⟨(h.ok x hx).1.keep fun k hk _ => hm.block k hk (fun h => h), (h.ok x hx).2.1.keep fun k hk _ => hm.block k hk (fun h => h), (h.ok x hx).2.2.keep fun k hk _ => hm.block k hk (fun h => h)⟩⟩

/-- The own block behind an append: a point apart from the elder one is apart from the newer one. -/
theorem TP.Own.moved {B : Nat} {w : World} {dims : Nat} {v v' : Value} {p : TP} (hd : 0 < dims) (h : p.Own B w dims v) {g H : Nat} (hv : v'.ownBlock = some g) (hat : v.ownBlock = some g ∨ g = H) (hH : w.heap.size ≤ H) : p.Own B w dims v' := by
  refine ⟨h.1, fun b o e => ⟨(h.2 b o e).1, fun e2 => ?_⟩⟩
  rw [hv] at e2
  injection e2 with e2
  subst e2
  have hlt : g < w.heap.size := (h.1.2.far (by omega)) (by rw [h.1.1]; exact hd) g o e
  rcases hat with h1 | h1
  · exact (h.2 g o e).2 h1
  · omega

theorem TP.Own0.moved {B : Nat} {w : World} {dims : Nat} {v v' : Value} {p : TP} (hd : 0 < dims) (h : p.Own0 B w dims v) {g H : Nat} (hv : v'.ownBlock = some g) (hat : v.ownBlock = some g ∨ g = H) (hH : w.heap.size ≤ H) : p.Own0 B w dims v' :=
  h.imp id fun h => h.moved hd hv hat hH

/-- A node more is written down. -/
theorem KS.push {B : Nat} {w w3 : World} {dims g cap : Nat} {v : Value} {rs : List KR} {x : KR} {o : Obj} (hd : 0 < dims) (h : KS B w dims v rs) (hx : x.p.Own B w dims v ∧ x.mn.Own0 B w dims v ∧ x.mx.Own0 B w dims v)
    (hown : w3.ownsRow B 91 6 (.slice (some ⟨g, 0, none⟩) (rs.length + 1) cap) (rs.length + 1) (rs.flatMap KR.cells ++ x.cells)) (hgrow : (w.alloc o).grownBy w3 v.ownBlock) (hat : v.ownBlock = some g ∨ g = w.heap.size + 1) :
    KS B w3 dims (.slice (some ⟨g, 0, none⟩) (rs.length + 1) cap) (rs ++ [x]) := by
  have hk : ∀ k, k < w.heap.size → v.ownBlock ≠ some k → w3.heap[k]? = w.heap[k]? := fun k hk hne =>
    (hgrow.block k (by rw [World.size_alloc]; omega) (Ne.symm hne)).trans (Below.heap_alloc _ _ _ hk)
  have hz : w.heap.size ≤ w3.heap.size := by have := hgrow.size; rw [World.size_alloc] at this; omega
  have mv : ∀ p : TP, p.Own B w dims v → p.Own B w3 dims (.slice (some ⟨g, 0, none⟩) (rs.length + 1) cap) := by
    intro p hp
    have h1 : p.Own B w dims (.slice (some ⟨g, 0, none⟩) (rs.length + 1) cap) := hp.moved hd rfl hat (by omega)
    exact ⟨(hp.keep hk).1, h1.2⟩
  have mv0 : ∀ p : TP, p.Own0 B w dims v → p.Own0 B w3 dims (.slice (some ⟨g, 0, none⟩) (rs.length + 1) cap) := fun p hp => hp.imp id (mv p)
  refine ⟨by rw [List.length_append, List.flatMap_append]; simpa using hown, fun y hy => ?_⟩
  rcases List.mem_append.1 hy with hy | hy
  · exact ⟨mv _ (h.ok y hy).1, mv0 _ (h.ok y hy).2.1, mv0 _ (h.ok y hy).2.2⟩
  · rw [List.mem_singleton.1 hy]
    exact ⟨mv _ hx.1, mv0 _ hx.2.1, mv0 _ hx.2.2⟩

/-- A node's both sides are written. -/
theorem KS.sides {B : Nat} {w : World} {dims i g n cap : Nat} {rs : List KR} {x : KR} (h : KS B w dims (.slice (some ⟨g, 0, none⟩) n cap) rs) (hn : n = rs.length) (hx : rs[i]? = some x) (l r : Int) :
    KS B ((w.setCell ⟨g, i * 6 + 2, none⟩ (.int .i64 l)).setCell ⟨g, i * 6 + 3, none⟩ (.int .i64 r)) dims (.slice (some ⟨g, 0, none⟩) n cap) (rs.set i { x with l := l, r := r }) := by
  subst hn
  have hil := (List.getElem?_eq_some_iff.1 hx).1
  have h1 := own_set_at (i := i * 6 + 2) h.own (.int .i64 l)
  rw [flat6_set rs i 2 x { x with l := l } _ hx rfl (by omega)] at h1
  have hx2 : (rs.set i { x with l := l })[i]? = some { x with l := l } := by rw [List.getElem?_set_self hil]
  have h2 := own_set_at (i := i * 6 + 3) h1 (.int .i64 r)
  rw [flat6_set _ i 3 { x with l := l } { x with l := l, r := r } _ hx2 rfl (by omega), List.set_set] at h2
  have hk : ∀ k, k < w.heap.size → (Value.slice (some ⟨g, 0, none⟩) rs.length cap).ownBlock ≠ some k → ((w.setCell ⟨g, i * 6 + 2, none⟩ (.int .i64 l)).setCell ⟨g, i * 6 + 3, none⟩ (.int .i64 r)).heap[k]? = w.heap[k]? := fun k _ hne => by
    have hne' : k ≠ g := fun e => hne (by rw [e]; rfl)
    rw [Below.heap_setCell _ _ _ _ (by show k ≠ g; exact hne'), Below.heap_setCell _ _ _ _ (by show k ≠ g; exact hne')]
  have hk2 : ∀ y ∈ rs, (y.p.Own B ((w.setCell ⟨g, i * 6 + 2, none⟩ (.int .i64 l)).setCell ⟨g, i * 6 + 3, none⟩ (.int .i64 r)) dims (.slice (some ⟨g, 0, none⟩) rs.length cap)) ∧ y.mn.Own0 B ((w.setCell ⟨g, i * 6 + 2, none⟩ (.int .i64 l)).setCell ⟨g, i * 6 + 3, none⟩ (.int .i64 r)) dims (.slice (some ⟨g, 0, none⟩) rs.length cap) ∧ y.mx.Own0 B ((w.setCell ⟨g, i * 6 + 2, none⟩ (.int .i64 l)).setCell ⟨g, i * 6 + 3, none⟩ (.int .i64 r)) dims (.slice (some ⟨g, 0, none⟩) rs.length cap) :=
    fun y hy => ⟨(h.ok y hy).1.keep hk, (h.ok y hy).2.1.keep hk, (h.ok y hy).2.2.keep hk⟩
  refine ⟨by rw [List.length_set]; exact h2, fun y hy => ?_⟩
  rcases List.mem_or_eq_of_mem_set hy with hy | rfl
  · exact hk2 y hy
  · exact hk2 x (List.mem_of_getElem? hx)

theorem KS.cell {B : Nat} {w : World} {dims i g n cap j : Nat} {rs : List KR} {x : KR} (h : KS B w dims (.slice (some ⟨g, 0, none⟩) n cap) rs) (hn : n = rs.length) (hx : rs[i]? = some x) (hj : j < 6) :
    w.cell? ⟨g, i * 6 + j, none⟩ = x.cells[j]? ∧ w.frozen? ⟨g, i * 6 + j, none⟩ = false := by
  subst hn
  have hg := flat6_get rs i j x hx hj
  have hcj : x.cells[j]? = some (x.cells[j]'(by show j < 6; exact hj)) := List.getElem?_eq_getElem _
  rw [hcj] at hg
  have := h.own.cells (g := g) rfl _ _ hg
  rw [addr_lit, Nat.zero_add] at this
  refine ⟨this.trans hcj.symm, ?_⟩
  rcases h.own.2 with ⟨e1, _⟩ | ⟨g', cap', cur, e1, hB, hgg, _⟩
  · cases e1
  · cases e1
    have hb : Blk w g 91 cur.toList := by unfold Blk; simpa using hgg
    exact hb.frozen _
end Go.Proofs.YtmeooadgdagiiaaGreat
