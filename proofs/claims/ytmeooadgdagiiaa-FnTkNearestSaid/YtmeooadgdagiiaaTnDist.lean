/- The walks of Distance and SquareN over points of whole numbers. Conditions: as each says. -/
import Derived.Test.YtmeooadgdagiiaaTbIns
import Derived.Test.YtmeooadgdagiiaaTnFloat
import Derived.Test.YtmeooadgdagiiaaTnPlain
import Derived.Deep.QuietTactic
namespace Lox
open Go Go.RowKit
set_option linter.unusedVariables false

theorem gd_unique {x : Nat} {n m : Int} (h : Gd 0 x n) (k : Gd 0 x m) : n = m := by
  have h1 := h.eq h
  have h2 := h.eq k
  rw [decide_eq_true rfl] at h1
  rw [h1] at h2
  exact of_decide_eq_true h2.symm

open Classical in
/-- The whole number that a word stands for. -/
noncomputable def zi (x : Nat) : Int := if h : ∃ n, Wh x n then Classical.choose h else 0

theorem zi_wh {x : Nat} (h : ∃ n, Wh x n) : Wh x (zi x) := by
  unfold zi
  rw [dif_pos h]
  exact Classical.choose_spec h

theorem zi_eq {x : Nat} {n : Int} (h : Wh x n) : zi x = n := gd_unique (zi_wh ⟨n, h⟩).1 h.1

/-- The squared distance, over the first k coordinates. -/
noncomputable def sqx (xs ys : List Nat) : Nat → Int
  | 0 => 0
  | k + 1 => sqx xs ys k + (zi (xs.getD k 0) - zi (ys.getD k 0)) * (zi (xs.getD k 0) - zi (ys.getD k 0))

theorem sqx_comm (xs ys : List Nat) (k : Nat) : sqx xs ys k = sqx ys xs k := by
  induction k with
  | zero => rfl
  | succ k ih =>
    simp only [sqx, ih]
    have : (zi (xs.getD k 0) - zi (ys.getD k 0)) * (zi (xs.getD k 0) - zi (ys.getD k 0)) = (zi (ys.getD k 0) - zi (xs.getD k 0)) * (zi (ys.getD k 0) - zi (xs.getD k 0)) := by rw [← Int.neg_mul_neg]; congr 1 <;> omega
    rw [this]

theorem sq_nn (a : Int) : 0 ≤ a * a := by
  rcases Int.le_total 0 a with h | h
  · exact Int.mul_nonneg h h
  · exact Int.mul_nonneg_of_nonpos_of_nonpos h h

theorem sq_le42 {a : Int} (h : a.natAbs ≤ 2097152) : a * a ≤ 4398046511104 := by
  have e : ((a.natAbs * a.natAbs : Nat) : Int) = a * a := Int.natAbs_mul_self
  have h2 : a.natAbs * a.natAbs ≤ 2097152 * 2097152 := Nat.mul_le_mul h h
  omega

theorem mem_getD {xs : List Nat} {k : Nat} (h : k < xs.length) : xs.getD k 0 ∈ xs := by simp [h]

theorem sqx_nn (xs ys : List Nat) (k : Nat) : 0 ≤ sqx xs ys k := by
  induction k with
  | zero => exact Int.le_refl _
  | succ k ih =>
    have := sq_nn (zi (xs.getD k 0) - zi (ys.getD k 0))
    simp only [sqx]; omega

theorem sqx_step (xs ys : List Nat) (k m : Nat) (h : k ≤ m) : sqx xs ys k ≤ sqx xs ys m := by
  induction m with
  | zero => obtain rfl : k = 0 := by omega
            exact Int.le_refl _
  | succ m ih =>
    rcases Nat.lt_or_ge k (m + 1) with h1 | h1
    · have h2 := ih (by omega)
      have := sq_nn (zi (xs.getD m 0) - zi (ys.getD m 0))
      simp only [sqx]; omega
    · obtain rfl : k = m + 1 := by omega
      exact Int.le_refl _

theorem sqx_ge (xs ys : List Nat) (d m : Nat) (h : d < m) : (zi (xs.getD d 0) - zi (ys.getD d 0)) * (zi (xs.getD d 0) - zi (ys.getD d 0)) ≤ sqx xs ys m := by
  have h1 := sqx_step xs ys (d + 1) m h
  have h2 := sqx_nn xs ys d
  simp only [sqx] at h1
  omega

theorem sqx_le (xs ys : List Nat) (hx : ∀ x ∈ xs, ∃ n, Wh x n) (hy : ∀ y ∈ ys, ∃ n, Wh y n) (k : Nat) (hkx : k ≤ xs.length) (hky : k ≤ ys.length) : sqx xs ys k ≤ 4398046511104 * k := by
  induction k with
  | zero => simp [sqx]
  | succ k ih =>
    have h1 := ih (by omega) (by omega)
    have hxk : ∃ n, Wh (xs.getD k 0) n := hx _ (mem_getD (by omega))
    have hyk : ∃ n, Wh (ys.getD k 0) n := hy _ (mem_getD (by omega))
    have ha := (zi_wh hxk).2
    have hb := (zi_wh hyk).2
    have := sq_le42 (a := zi (xs.getD k 0) - zi (ys.getD k 0)) (by omega)
    simp only [sqx]
    omega
end Lox
namespace Go.Proofs.Ytmeooadgdagiiaa
open Go.RowKit Lox
set_option linter.unusedVariables false
attribute [local go_sem] run_store_flt run_store_fn

theorem TP.gr_iff {p : TP} : p.Gr ↔ ∀ x ∈ p.xs, ∃ n, Wh x n := by
  refine ⟨fun h x hx => ?_, TP.gr_of⟩
  obtain ⟨i, hi, rfl⟩ := List.mem_iff_getElem.1 hx
  have := h i hi
  have e : p.n i = p.xs[i] := by simp [TP.n, hi]
  rw [e] at this
  exact this

/-- One step of the sum. -/
theorem sq_run {x y s : Nat} {a b t : Int} (hx : Wh x a) (hy : Wh y b) (hs : Gd 0 s t) (h0 : 0 ≤ t) (ht : t ≤ 1125899906842624) : ∃ d m r, (∀ (P : Program) (T : TypeId) (w : World), (binOp .sub T (.float .f64 x) (.float .f64 y)).run P w = .ok (.float .f64 d) w) ∧ (∀ (P : Program) (T : TypeId) (w : World), (binOp .mul T (.float .f64 d) (.float .f64 d)).run P w = .ok (.float .f64 m) w) ∧
    (∀ (P : Program) (T : TypeId) (w : World), (binOp .add T (.float .f64 s) (.float .f64 m)).run P w = .ok (.float .f64 r) w) ∧ Gd 0 r (t + (a - b) * (a - b)) := by
  have hab : (a - b).natAbs ≤ 2097152 := by have := hx.2; have := hy.2; omega
  obtain ⟨d, hd, gd⟩ := Gd.sub hx.1 hy.1 (by omega) (by omega)
  have h42 := sq_le42 hab
  have hnn := sq_nn (a - b)
  have hmul : ∃ m, Ieee.double.mul d d = some m ∧ Gd 0 m ((a - b) * (a - b)) := by
    have e : ((a - b : Int) : Rat) * p2 (-((0 : Nat) : Int)) = ((a - b : Int) : Rat) := by
      have : (-((0 : Nat) : Int)) = 0 := rfl
      rw [this, p2_zero, Rat.mul_one]
    have g1 : Is d ((a - b : Int) : Rat) := by have h := gd; unfold Gd at h; rw [e] at h; exact h
    have h := Is.mul g1 g1
    rw [← Rat.intCast_mul] at h
    obtain ⟨m, hm, im⟩ := h (rep_whole _ (by omega)) (by
      have h1 := int_lt_p2 ((a - b) * (a - b)) 53 (by have : (2 ^ 53 : Nat) = 9007199254740992 := by decide
                                                      omega)
      exact rlt_le h1 (p2_le (by omega)))
    exact ⟨m, hm, gd0_of_is im⟩
  obtain ⟨m, hm, gm⟩ := hmul
  obtain ⟨r, hr, gr⟩ := Gd.add hs gm (by omega) (by omega)
  exact ⟨d, m, r, fun P T w => run_float_arith w .sub T .f64 _ _ d hd, fun P T w => run_float_arith w .mul T .f64 _ _ m hm, fun P T w => run_float_arith w .add T .f64 _ _ r hr, gr⟩

set_option maxHeartbeats 2000000 in
theorem dist_at (w : World) (dims : Nat) (p q : TP) (hp : p.Ok w dims) (hq : q.Ok w dims) (gp : p.Gr) (gq : q.Gr) (hdm : dims ≤ 4) :
    Calls Try.prog 135 #[.slice p.A dims p.c, .iface 73 (.slice q.A dims q.c)] w fun e w' => (∃ r, e = .returned (.float .f64 r) ∧ Gd 0 r (sqx p.xs q.xs dims)) ∧ w = w' := by
  have hta := run_assert_pt
  have HH := Lib.hid (And.intro hp (And.intro hq (And.intro (TP.gr_iff.1 gp) (TP.gr_iff.1 gq))))
  have hz0 : Gd 0 0 0 := gd0_of_is is_zero
  have HZ0 := Lib.hid hz0
  clear hp hq gp gq hz0
  go_enter Try.func135, Try.ntmps135
  go_wp2
  go_loop [6, 14] (fun s i => ∃ k b : Nat, k ≤ dims ∧ i = .int .i64 k ∧ s = .float .f64 b ∧ Hid (Gd 0 b (sqx p.xs q.xs k))) (fun _ i => dims - (intOf i).toNat)
  case atStart => exact ⟨0, 0, Nat.zero_le _, rfl, rfl, HZ0.out⟩
  case round =>
    obtain ⟨k, b, hk, rfl, rfl, HR⟩ := hrel
    by_cases hlt : k < dims
    · obtain ⟨l1, s1⟩ := HH.out.1
      obtain ⟨l2, s2⟩ := HH.out.2.1
      rw [l1] at s1
      rw [l2] at s2
      obtain ⟨b1, o1, v1, e1, f1, c1⟩ := s1.at1 hlt
      obtain ⟨b2, o2, v2, e2, f2, c2⟩ := s2.at1 hlt
      rw [flts_getD (by omega)] at f1 f2
      cases f1
      cases f2
      have hxk : ∃ n, Wh (p.xs.getD k 0) n := HH.out.2.2.1 _ (mem_getD (by omega))
      have hyk : ∃ n, Wh (q.xs.getD k 0) n := HH.out.2.2.2 _ (mem_getD (by omega))
      have hle := sqx_le p.xs q.xs HH.out.2.2.1 HH.out.2.2.2 k (by omega) (by omega)
      obtain ⟨d, m, r, r1, r2, r3, hg⟩ := sq_run (zi_wh hxk) (zi_wh hyk) HR.out (sqx_nn _ _ _) (by omega)
      have HG : Hid (Gd 0 r (sqx p.xs q.xs (k + 1))) := hg
      rw [e1, e2]
      clear hg hle hxk hyk l1 l2 s1 s2 e1 e2
      generalize p.xs.getD k 0 = x at c1 r1
      generalize q.xs.getD k 0 = y at c2 r1
      go_wp2
      go_round
      case rel => exact ⟨k + 1, r, by omega, by go_num, rfl, HG⟩
      case measure => simp [intOf]; omega
    · obtain rfl : k = dims := by omega
      go_wp2
      go_ret
      exact ⟨⟨b, rfl, HR.out⟩, rfl⟩

theorem TP.Ok.drewN {w : World} {dims : Nat} {p : TP} (h : p.Ok w dims) (m : Nat) : p.Ok (w.drewN m) dims := h.mod0 ((Mod.refl _ _).drewN m)

set_option maxHeartbeats 4000000 in
theorem square_at (w : World) (dims : Nat) (p q : TP) (hp : p.Ok w dims) (hq : q.Ok w dims) (gp : p.Gr) (gq : q.Gr) (hdm : dims ≤ 4) :
    Calls Try.prog 51 #[.slice p.A dims p.c, .slice q.A dims q.c] w fun e w' => (∃ r, e = .returned (.float .f64 r) ∧ Gd 0 r (sqx p.xs q.xs dims)) ∧ ∃ m, w' = w.drewN m := by
  have HH := Lib.hid (And.intro hp (And.intro hq (And.intro (TP.gr_iff.1 gp) (TP.gr_iff.1 gq))))
  have hz0 : Gd 0 0 0 := gd0_of_is is_zero
  have HZ0 := Lib.hid hz0
  clear hp hq gp gq hz0
  go_enter Try.func51, Try.ntmps51
  go_wp2
  go_loopw [5, 10] (fun s i wr => ∃ k b m : Nat, k ≤ dims ∧ i = .int .i64 k ∧ s = .float .f64 b ∧ wr = w.drewN m ∧ Hid (Gd 0 b (sqx p.xs q.xs k))) (fun _ i _ => dims - (intOf i).toNat)
  case atStart => exact ⟨0, 0, 0, Nat.zero_le _, rfl, rfl, rfl, HZ0.out⟩
  case round =>
    obtain ⟨k, b, m, hk, rfl, rfl, rfl, HR⟩ := hrel
    by_cases hlt : k < dims
    · obtain ⟨l1, s1⟩ := HH.out.1
      obtain ⟨l2, s2⟩ := HH.out.2.1
      rw [l1] at s1
      rw [l2] at s2
      obtain ⟨b1, o1, v1, e1, f1, c1⟩ := s1.at1 hlt
      obtain ⟨b2, o2, v2, e2, f2, c2⟩ := s2.at1 hlt
      rw [flts_getD (by omega)] at f1 f2
      cases f1
      cases f2
      have hxk : ∃ n, Wh (p.xs.getD k 0) n := HH.out.2.2.1 _ (mem_getD (by omega))
      have hyk : ∃ n, Wh (q.xs.getD k 0) n := HH.out.2.2.2 _ (mem_getD (by omega))
      have hle := sqx_le p.xs q.xs HH.out.2.2.1 HH.out.2.2.2 k (by omega) (by omega)
      obtain ⟨d, mm, r, r1, r2, r3, hg⟩ := sq_run (zi_wh hxk) (zi_wh hyk) HR.out (sqx_nn _ _ _) (by omega)
      have HG : Hid (Gd 0 r (sqx p.xs q.xs (k + 1))) := hg
      rw [e1, e2]
      clear hg hle hxk hyk l1 l2 s1 s2 e1 e2
      generalize p.xs.getD k 0 = x at c1 r1
      generalize q.xs.getD k 0 = y at c2 r1
      have i0 : (0 : Int) ≤ k := by omega
      have i1 : (k : Int) < dims := by omega
      go_wp2
      go_quiet (fail)
      go_wp2
      go_roundw
      case rel => exact ⟨k + 1, r, m + nq, by omega, by go_num, rfl, by simp [World.drewN], HG⟩
      case measure => simp [intOf]; omega
    · obtain rfl : k = dims := by omega
      go_wp2
      go_ret
      exact ⟨⟨b, rfl, HR.out⟩, m, rfl⟩
end Go.Proofs.Ytmeooadgdagiiaa
