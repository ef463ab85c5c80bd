/- The array of points that a k-d tree is built of: Len and Less. Conditions: as each says. -/
import Derived.Test.YtmeooadgdagiiaaTbSwap
namespace Go.Proofs.Ytmeooadgdagiiaa
open Go.RowKit Lox
set_option linter.unusedVariables false
attribute [local go_sem] run_store_flt run_store_fn

/-- The bits of a point's number. -/
def TP.n (p : TP) (d : Nat) : Nat := (p.xs[d]?).getD 0

/-- x's number on plane d is not above p's, by bits: the program's '!Less(p, x)'. -/
def leB (d : Nat) (x p : TP) : Bool := !(FloatKind.f64.format.order (p.n d) (x.n d) == some .lt)

/-- A point that can be read. -/
def TP.Ok (w : World) (dims : Nat) (p : TP) : Prop := p.xs.length = dims ∧ Sl w p.A p.xs.length 1 (flts p.xs)

set_option maxHeartbeats 4000000 in
theorem pless_at (w : World) (dims d pb o n c : Nat) (ps : List TP) (i j : Nat) (I J D : Int) (hI : I = i) (hJ : J = j) (hD : D = d) (h : TPs w pb ps) (hi : i < n) (hj : j < n) (hn : o + n ≤ ps.length) (hl : ps.length ≤ 1099511627776) (hc : n ≤ c) (hd : d < dims) (hdm : dims ≤ 1099511627776)
    (p q : TP) (hp : ps[o + i]? = some p) (hq : ps[o + j]? = some q) (ho : p.Ok w dims ∧ q.Ok w dims) :
    Calls Try.prog 155 #[.agg #[.int .i64 D, .slice (some ⟨pb, o, none⟩) n c], .int .i64 I, .int .i64 J] w fun e w' => e = .returned (.bool (!leB d q p)) ∧ Mod (fun _ => False) w w' := by
  subst hI hJ hD
  have c1 : w.cell? ⟨pb, o + i, none⟩ = some p.v := TPs.at h hp
  have c2 : w.cell? ⟨pb, o + j, none⟩ = some q.v := TPs.at h hq
  obtain ⟨l1, s1, z1⟩ := ho.1
  obtain ⟨l2, s2, z2⟩ := ho.2
  rw [l1] at z1
  rw [l2] at z2
  obtain ⟨b1, o1, e1, r1⟩ := z1 (by omega)
  obtain ⟨b2, o2, e2, r2⟩ := z2 (by omega)
  have k1 : w.cell? ⟨b1, o1 + d, none⟩ = some (.float .f64 (p.n d)) := r1 d _ (by
    have hh : d < p.xs.length := by omega
    simp [flts, TP.n, hh])
  have k2 : w.cell? ⟨b2, o2 + d, none⟩ = some (.float .f64 (q.n d)) := r2 d _ (by
    have hh : d < q.xs.length := by omega
    simp [flts, TP.n, hh])
  have i1 : (0 : Int) ≤ i := by omega
  have i2 : (i : Int) < n := by omega
  have j1 : (0 : Int) ≤ j := by omega
  have j2 : (j : Int) < n := by omega
  have d1 : (0 : Int) ≤ d := by omega
  have d2 : (d : Int) < dims := by omega
  have lt := TPs.lt h
  have lt1 := lt_of_cell k1
  have lt2 := lt_of_cell k2
  unfold TP.v at c1 c2
  rw [l1, e1] at c1
  rw [l2, e2] at c2
  have hres : (!leB d q p) = (FloatKind.f64.format.order (p.n d) (q.n d) == some .lt) := by unfold leB; rw [Bool.not_not]
  rw [hres]
  clear h ho hp hq s1 s2 z1 z2 r1 r2 hres e1 e2
  generalize p.n d = x at k1 ⊢
  generalize q.n d = y at k2 ⊢
  go_enter Try.func155, Try.ntmps155
  go_wp2
  go_region
  all_goals (go_wp2; go_ret)
  all_goals exact ⟨rfl, ((Mod.refl _ w).alloc _).drew⟩
end Go.Proofs.Ytmeooadgdagiiaa
