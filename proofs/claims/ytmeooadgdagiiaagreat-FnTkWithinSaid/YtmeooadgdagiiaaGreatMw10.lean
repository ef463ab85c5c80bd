/- Steps of a proof, one behind another: The walk of Node.search over a k-d tree in memory. Conditions: as each theorem says. -/
import Derived.Test.YtmeooadgdagiiaaGreatMw9

namespace Lox
open Go Go.RowKit
theorem olt_eq (a b : Option Int) : olt a b = KB.oltI a b := by cases a <;> cases b <;> rfl
theorem omin_eq (a b : Option Int) : omin a b = KB.ominI a b := by unfold omin KB.ominI; rw [olt_eq]
namespace KB
variable {α : Type}

theorem srch_lo (z : α → Nat → Int) (zq : Nat → Int) (sq : α → Int) (p : α) (pl : Nat) (l r : T α) (D : Option Int) (hc : zq pl - z p pl ≤ 0) (D1 : Option Int) (hD : D1 = ominI D (some (sq p))) (s : Option α × Option Int) (hs : s = if oltI (srch z zq sq l D1).2 D1 then srch z zq sq l D1 else (some p, D1)) :
    srch z zq sq (.node p pl l r) D = if oltI (some ((zq pl - z p pl) * (zq pl - z p pl))) s.2 then (if oltI (srch z zq sq r s.2).2 s.2 then srch z zq sq r s.2 else s) else s := by
  subst hD hs
  simp only [srch, if_pos hc]

theorem srch_hi (z : α → Nat → Int) (zq : Nat → Int) (sq : α → Int) (p : α) (pl : Nat) (l r : T α) (D : Option Int) (hc : ¬ zq pl - z p pl ≤ 0) (D1 : Option Int) (hD : D1 = ominI D (some (sq p))) (s : Option α × Option Int) (hs : s = if oltI (srch z zq sq r D1).2 D1 then srch z zq sq r D1 else (some p, D1)) :
    srch z zq sq (.node p pl l r) D = if oltI (some ((zq pl - z p pl) * (zq pl - z p pl))) s.2 then (if oltI (srch z zq sq l s.2).2 s.2 then srch z zq sq l s.2 else s) else s := by
  subst hD hs
  simp only [srch, if_neg hc]
end KB
end Lox
namespace Go.Proofs.YtmeooadgdagiiaaGreat
open Go.RowKit Lox
set_option linter.unusedVariables false
attribute [local go_sem] run_store_flt run_store_fn
attribute [local go_sem ↓] Go.wp_at_zero Go.wp_at_succ

theorem kahead_distance (A : Option Addr) (n c : Nat) (w : World) : (nilAhead 279 50 (.slice A n c) "Distance").run Tryz.prog w = .ok (some false) w := by kernel_rfl
theorem kmeth_distance (S : Value) (w : World) : (method 279 50 S "Distance").run Tryz.prog w = .ok (101, S) w := by kernel_rfl

theorem mul_run {d : Nat} {e : Int} (g : Gd 0 d e) (h : e.natAbs ≤ 2097152) : ∃ m, (∀ (P : Program) (T : TypeId) (w : World), (binOp .mul T (.float .f64 d) (.float .f64 d)).run P w = .ok (.float .f64 m) w) ∧ DV m (some (e * e)) := by
  have h42 := sq_le42 h
  have hnn := sq_nn e
  have e0 : ((e : Int) : Rat) * p2 (-((0 : Nat) : Int)) = ((e : Int) : Rat) := by
    have : (-((0 : Nat) : Int)) = 0 := rfl
    rw [this, p2_zero, Rat.mul_one]
  have g1 : Is d ((e : Int) : Rat) := by have h := g; unfold Gd at h; rw [e0] at h; exact h
  have h2 := Is.mul g1 g1
  rw [← Rat.intCast_mul] at h2
  obtain ⟨m, hm, im⟩ := h2 (rep_whole _ (by omega)) (by
    have h1 := int_lt_p2 (e * e) 53 (by have : (2 ^ 53 : Nat) = 9007199254740992 := by decide
                                        omega)
    exact rlt_le h1 (p2_le (by omega)))
  exact ⟨m, fun P T w => run_float_arith w .mul T .f64 _ _ m hm, gd0_of_is im, hnn, by omega⟩

/-- The search over a tree in memory, as a plain one. -/
noncomputable def SS (dims : Nat) (q : TP) (t : MT) (D : Option Int) : Option TP × Option Int := KB.srch (fun x d => zi (x.n d)) (fun d => zi (q.n d)) (fun x => sqx q.xs x.xs dims) t.T D

/-- A pointer to the node of the point that a search names. -/
def PtrOk (w : World) (l : List TP) (o : Option TP) (ptr : Option Addr) : Prop :=
  (o = none ∧ ptr = none) ∨ ∃ p g, o = some p ∧ p ∈ l ∧ ptr = some ⟨g, 0, none⟩ ∧ w.cell? ⟨g, 0, none⟩ = some (.iface 50 p.v)

/-- What search tells: of the world w0 in which the tree stood. -/
def SrTold (dims : Nat) (q : TP) (t : MT) (D : Option Int) (w : World) (e : Ending) (w' : World) : Prop :=
  ∃ (ptr : Option Addr) (r : Nat), e = .returned (.tuple #[.pointer ptr, .float .f64 r]) ∧ DV r (SS dims q t D).2 ∧ PtrOk w' t.pts (SS dims q t D).1 ptr ∧ Mod (fun _ => False) w w'

theorem PtrOk.later {w w1 : World} {l m : List TP} {o : Option TP} {ptr : Option Addr} (h : PtrOk w l o ptr) (hm : Mod (fun _ => False) w w1) (hl : ∀ p ∈ l, p ∈ m) : PtrOk w1 m o ptr := by
  rcases h with h | ⟨p, g, h1, h2, h3, h4⟩
  · exact .inl h
  · exact .inr ⟨p, g, h1, hl p h2, h3, (hm.cell (lt_of_cell h4) (fun h => h)).trans h4⟩

theorem SS_lo (dims : Nat) (q : TP) (g : Nat) (p : TP) (pl : Nat) (bx : Option BX) (l r : MT) (D D1 : Option Int) (cz : Int) (hD : D1 = KB.ominI D (some (sqx q.xs p.xs dims))) (hz : cz = zi (q.n pl) - zi (p.n pl)) (hc : cz ≤ 0) (s : Option TP × Option Int) (hs : s = if KB.oltI (SS dims q l D1).2 D1 then SS dims q l D1 else (some p, D1)) :
    SS dims q (.node g p pl bx l r) D = if KB.oltI (some (cz * cz)) s.2 then (if KB.oltI (SS dims q r s.2).2 s.2 then SS dims q r s.2 else s) else s := by
  subst hz
  exact KB.srch_lo (fun (x : TP) d => zi (x.n d)) (fun d => zi (q.n d)) (fun x => sqx q.xs x.xs dims) p pl l.T r.T D hc D1 hD s hs

theorem SS_hi (dims : Nat) (q : TP) (g : Nat) (p : TP) (pl : Nat) (bx : Option BX) (l r : MT) (D D1 : Option Int) (cz : Int) (hD : D1 = KB.ominI D (some (sqx q.xs p.xs dims))) (hz : cz = zi (q.n pl) - zi (p.n pl)) (hc : ¬ cz ≤ 0) (s : Option TP × Option Int) (hs : s = if KB.oltI (SS dims q r D1).2 D1 then SS dims q r D1 else (some p, D1)) :
    SS dims q (.node g p pl bx l r) D = if KB.oltI (some (cz * cz)) s.2 then (if KB.oltI (SS dims q l s.2).2 s.2 then SS dims q l s.2 else s) else s := by
  subst hz
  exact KB.srch_hi (fun (x : TP) d => zi (x.n d)) (fun d => zi (q.n d)) (fun x => sqx q.xs x.xs dims) p pl l.T r.T D hc D1 hD s hs

theorem look0 {r : Nat} {a : Int} (hr : Gd 0 r a) : (FloatKind.f64.format.order r 0 == some .lt || FloatKind.f64.format.order r 0 == some .eq) = decide (a ≤ 0) := le_look (a := a) (b := 0) (by rw [Int.sub_zero]; exact hr)

theorem sq_dv (q p : TP) (dims r : Nat) (w1 w2 : World) (hq : q.Ok w1 dims) (hp : p.Ok w2 dims) (gq : q.Gr) (gp : p.Gr) (hdm : dims ≤ 4) (h : Gd 0 r (sqx q.xs p.xs dims)) : DV r (some (sqx q.xs p.xs dims)) := by
  have hle := sqx_le q.xs p.xs (TP.gr_iff.1 gq) (TP.gr_iff.1 gp) dims (by have := hq.1; omega) (by have := hp.1; omega)
  exact ⟨h, sqx_nn _ _ _, by omega⟩

end Go.Proofs.YtmeooadgdagiiaaGreat
