/- Steps of a proof, one behind another: How arguments that came in read: slices of float numbers. How the laws' arguments read: lists of points, picks. Conditions: as each theorem says. -/
import Derived.Test.YtpamoleocjdjiaaDoorMv12
import Derived.Deep.Slices
import Derived.Deep.Fields
import Derived.ChangeSame
import Derived.Laws.Cover2

namespace Lox
open Go Go.RowKit Go.ChangeShapes Go.WideShapes Go.Deep
set_option linter.unusedVariables false

section
variable {H : Type} {enc : TypeId × Value → H} {P : Program} {w : World} {base : Nat} {spare : Nat → Bool} {held : Bool} {fuel : Nat}

theorem trod_flt {t : TypeId} {k : FloatKind} {cs : List Value} {x : DataW H × List MemPlace} (ht : P.underlying t = some (.float k)) (h : DataW.trod enc P w base spare held fuel t cs = some x) : ∃ b, cs = [.float k b] ∧ (Lit.float k b).wf = true := by
  cases fuel with
  | zero => simp [DataW.trod] at h
  | succ n =>
    unfold DataW.trod at h
    rw [ht] at h
    split at h <;> simp_all

def bitsOf : Value → Nat
  | .float _ b => b
  | _ => 0

theorem spot_none {a : Addr} {v : Value} (h : w.cell? a = some v) : ∃ b o, a = ⟨b, o, none⟩ := by
  obtain ⟨b, o, sp⟩ := a
  have hs : sp = none := by simpa using World.cell?_spot h
  exact ⟨b, o, by rw [hs]⟩

/-- A slice of float numbers that came in. -/
theorem read_floats {t e : TypeId} {cs : List Value} {x : DataW H × List MemPlace} (ht : P.underlying t = some (.slice e)) (he : P.underlying e = some (.float .f64)) (hc : P.cellsOf e = 1)
    (h : DataW.trod enc P w base (fun _ => true) held fuel t cs = some x) : ∃ A n c xs, cs = [.slice A n c] ∧ Sl w A n 1 (flts xs) ∧ n ≤ c ∧ c ≤ 9223372036854775807 ∧ (∀ y ∈ xs, (Lit.float .f64 y).wf = true) := by
  rcases open_slice1 ht hc h with ⟨rfl, _⟩ | ⟨a, len, cap, m, n, V, D, Pl, rfl, _, hl, hm, hmm, _, hV⟩
  · exact ⟨none, 0, 0, [], rfl, Sl.nil _ _, Nat.le_refl _, by omega, fun y hy => by cases hy⟩
  · have hmc : m = cap := by rw [hmm]; simp
    have hB : ∀ i, i < cap → V i = .float .f64 (bitsOf (V i)) ∧ (Lit.float .f64 (bitsOf (V i))).wf = true := fun i hi => by
      obtain ⟨b, e1, e2⟩ := trod_flt he (hV i (by omega)).2
      rw [List.cons.injEq] at e1
      rw [e1.1]
      exact ⟨rfl, e2⟩
    refine ⟨some a, len, cap, (List.range len).map fun i => bitsOf (V i), rfl, ⟨by simp [flts], fun h0 => ?_⟩, hl, hm, fun y hy => ?_⟩
    · have h1 := (hV 0 (by omega)).1
      obtain ⟨b', o', e'⟩ : ∃ b' o', a = ⟨b', o', none⟩ := by
        obtain ⟨ab, ao, sp⟩ := a
        have hs : sp = none := by simpa [Addr.add] using World.cell?_spot h1
        exact ⟨ab, ao, by rw [hs]⟩
      subst e'
      refine ⟨b', o', rfl, fun j v hv => ?_⟩
      unfold flts at hv
      rw [List.map_map, List.getElem?_map] at hv
      by_cases hj : j < len
      · rw [List.getElem?_range hj] at hv
        simp only [Option.map_some, Function.comp, Option.some.injEq] at hv
        rw [← hv, ← (hB j (by omega)).1, ← addr_lit]
        exact (hV j (by omega)).1
      · rw [List.getElem?_eq_none (by simp; omega)] at hv
        cases hv
    · obtain ⟨i, hi, rfl⟩ := List.mem_map.1 hy
      exact (hB i (by have := List.mem_range.1 hi; omega)).2

theorem open_slice_fields {t e : TypeId} {fs : Array Field} {cs : List Value} {x : DataW H × List MemPlace} (ht : P.underlying t = some (.slice e)) (he : P.underlying e = some (.struct fs))
    (hone : oneCellFields P fs = true) (hC : P.cellsOf e = fs.size) (h : DataW.trod enc P w base spare held fuel t cs = some x) :
    (cs = [.slice none 0 0] ∧ x = (.nil, [])) ∨
    ∃ (a : Addr) (len cap m : Nat), cs = [.slice (some a) len cap] ∧ len ≤ cap ∧ cap ≤ maxLen ∧ m = (if spare a.block then cap else len) ∧
      ∀ i, i < m → ∃ n : Nat, ∀ (j : Nat) (f : Field), fs[j]? = some f → ∃ (v : Value) (y : DataW H × List MemPlace), w.cell? (a.add (i * fs.size + j)) = some v ∧ DataW.trod enc P w base spare held n f.type [v] = some y := by
  rcases open_slice ht h with h0 | ⟨a, len, cap, m, n, D, Pl, hcs, hb, hl, hm, hmm, hx, hi⟩
  · exact .inl h0
  · refine .inr ⟨a, len, cap, m, hcs, hl, hm, hmm, fun i him => ?_⟩
    obtain ⟨cs', hc, ht'⟩ := hi i him
    rw [hC] at hc
    obtain ⟨ys, n', hn', hy, hlen, hyl, hf⟩ := DataW.trod_struct he ht'
    obtain ⟨_, hcl, hat⟩ := World.cells?_some hc
    refine ⟨n', fun j f hj => ?_⟩
    obtain ⟨ho, hk⟩ := hone_of hone j f hj
    have hjl : j < fs.size := (Array.getElem?_eq_some_iff.1 hj).1
    have hcell := hat j hjl
    have hv : cs'[j]? = some (cs'[j]'(by omega)) := List.getElem?_eq_getElem (by omega)
    have h1 := hf j f hj
    rw [ho, hk] at h1
    have hone' : (cs'.drop j).take 1 = [cs'[j]'(by omega)] := by
      rw [List.drop_eq_getElem_cons (by omega)]
      rfl
    rw [hone'] at h1
    have hys : ys[j]? = some (ys[j]'(by omega)) := List.getElem?_eq_getElem (by omega)
    refine ⟨_, _, ?_, h1.trans hys⟩
    rw [← Go.Deep.add_add, hcell, hv]

/-- A slice of slices of float numbers that came in. -/
theorem read_rows {t s e : TypeId} {cs : List Value} {x : DataW H × List MemPlace} (ht : P.underlying t = some (.slice s)) (hs1 : P.cellsOf s = 1) (hs : P.underlying s = some (.slice e)) (he : P.underlying e = some (.float .f64)) (hc : P.cellsOf e = 1)
    (h : DataW.trod enc P w base (fun _ => true) held fuel t cs = some x) : ∃ (A : Option Addr) (n c : Nat) (pts : List Pt), cs = [.slice A n c] ∧ Sl w A n 1 (pts.map Pt.v) ∧ n ≤ c ∧ c ≤ 9223372036854775807 ∧ ∀ p ∈ pts, Sl w p.A p.n 1 (flts p.xs) ∧ p.n ≤ 9223372036854775807 := by
  rcases open_slice1 ht hs1 h with ⟨rfl, _⟩ | ⟨a, len, cap, m, n, V, D, Pl, rfl, _, hl, hm, hmm, _, hV⟩
  · exact ⟨none, 0, 0, [], rfl, Sl.nil _ _, Nat.le_refl _, by omega, fun y hy => by cases hy⟩
  · have hmc : m = cap := by rw [hmm]; simp
    obtain ⟨F, hF⟩ := choose_lt (α := Pt) (n := cap) (p := fun i p => V i = p.v ∧ Sl w p.A p.n 1 (flts p.xs) ∧ p.n ≤ 9223372036854775807) (fun i hi => by
      obtain ⟨A, q, c, xs, e1, e2, e3, e4, _⟩ := read_floats hs he hc (hV i (by omega)).2
      rw [List.cons.injEq] at e1
      exact ⟨⟨A, q, c, xs⟩, e1.1, e2, by show q ≤ _; omega⟩)
    refine ⟨some a, len, cap, (List.range len).map F, rfl, ⟨by simp, fun h0 => ?_⟩, hl, hm, fun p hp => ?_⟩
    · have h1 := (hV 0 (by omega)).1
      obtain ⟨b', o', e'⟩ : ∃ b' o', a = ⟨b', o', none⟩ := by
        obtain ⟨ab, ao, sp⟩ := a
        have hs : sp = none := by simpa [Addr.add] using World.cell?_spot h1
        exact ⟨ab, ao, by rw [hs]⟩
      subst e'
      refine ⟨b', o', rfl, fun j v hv => ?_⟩
      rw [List.map_map, List.getElem?_map] at hv
      by_cases hj : j < len
      · rw [List.getElem?_range hj] at hv
        simp only [Option.map_some, Function.comp, Option.some.injEq] at hv
        rw [← hv, ← (hF j (by omega)).1, ← addr_lit]
        exact (hV j (by omega)).1
      · rw [List.getElem?_eq_none (by simp; omega)] at hv
        cases hv
    · obtain ⟨i, hi, rfl⟩ := List.mem_map.1 hp
      exact (hF i (by have := List.mem_range.1 hi; omega)).2
end
end Lox

namespace Lox
open Go Go.RowKit Go.ChangeShapes Go.WideShapes Go.Deep
set_option linter.unusedVariables false

section
variable {H : Type} {enc : TypeId × Value → H} {P : Program} {w : World} {base : Nat} {spare : Nat → Bool} {held : Bool} {fuel : Nat}

theorem trod_i64 {t : TypeId} {cs : List Value} {x : DataW H × List MemPlace} (ht : P.underlying t = some (.int .i64)) (h : DataW.trod enc P w base spare held fuel t cs = some x) : ∃ b, cs = [.int .i64 b] ∧ (Lit.int .i64 b).wf = true := by
  cases fuel with
  | zero => simp [DataW.trod] at h
  | succ n =>
    unfold DataW.trod at h
    rw [ht] at h
    split at h <;> simp_all

def numOf : Value → Int
  | .int _ b => b
  | _ => 0

/-- A slice of whole numbers that came in. -/
theorem read_ints {t e : TypeId} {cs : List Value} {x : DataW H × List MemPlace} (ht : P.underlying t = some (.slice e)) (he : P.underlying e = some (.int .i64)) (hc : P.cellsOf e = 1)
    (h : DataW.trod enc P w base (fun _ => true) held fuel t cs = some x) : ∃ A n c xs, cs = [.slice A n c] ∧ Sl w A n 1 (ints xs) ∧ n ≤ c ∧ c ≤ 9223372036854775807 ∧ (∀ y ∈ xs, (Lit.int .i64 y).wf = true) ∧ (A = none → c = 0) := by
  rcases open_slice1 ht hc h with ⟨rfl, _⟩ | ⟨a, len, cap, m, n, V, D, Pl, rfl, _, hl, hm, hmm, _, hV⟩
  · exact ⟨none, 0, 0, [], rfl, ⟨by simp [ints], fun h => by omega⟩, Nat.le_refl _, by omega, fun y hy => (by cases hy), fun _ => rfl⟩
  · have hmc : m = cap := by rw [hmm]; simp
    have hB : ∀ i, i < cap → V i = .int .i64 (numOf (V i)) ∧ (Lit.int .i64 (numOf (V i))).wf = true := fun i hi => by
      obtain ⟨b, e1, e2⟩ := trod_i64 he (hV i (by omega)).2
      rw [List.cons.injEq] at e1
      rw [e1.1]
      exact ⟨rfl, e2⟩
    refine ⟨some a, len, cap, (List.range len).map fun i => numOf (V i), rfl, ⟨by simp [ints], fun h0 => ?_⟩, hl, hm, fun y hy => ?_, fun e => by cases e⟩
    · have h1 := (hV 0 (by omega)).1
      obtain ⟨b', o', e'⟩ : ∃ b' o', a = ⟨b', o', none⟩ := by
        obtain ⟨ab, ao, sp⟩ := a
        have hs : sp = none := by simpa [Addr.add] using World.cell?_spot h1
        exact ⟨ab, ao, by rw [hs]⟩
      subst e'
      refine ⟨b', o', rfl, fun j v hv => ?_⟩
      unfold ints at hv
      rw [List.map_map, List.getElem?_map] at hv
      by_cases hj : j < len
      · rw [List.getElem?_range hj] at hv
        simp only [Option.map_some, Function.comp, Option.some.injEq] at hv
        rw [← hv, ← (hB j (by omega)).1, ← addr_lit]
        exact (hV j (by omega)).1
      · rw [List.getElem?_eq_none (by simp; omega)] at hv
        cases hv
    · obtain ⟨i, hi, rfl⟩ := List.mem_map.1 hy
      exact (hB i (by have := List.mem_range.1 hi; omega)).2
end

theorem wf_le {y : Int} (h : (Lit.int .i64 y).wf = true) : y ≤ 9223372036854775807 := by
  simp only [Lit.wf, Bool.and_eq_true, decide_eq_true_eq] at h
  have e : IntKind.i64.max = 9223372036854775807 := by decide
  rw [e] at h
  exact h.2
end Lox
namespace Go.Proofs.YtpamoleocjdjiaaDoor
open Go.RowKit Lox Go.ChangeShapes Go.WideShapes Go.Deep

section
variable {H : Type} {enc : TypeId × Value → H} {P : Program} {w : World} {base : Nat} {held : Bool} {fuel : Nat}

/-- A list of points that came in. -/
theorem read_points {t s e : TypeId} {cs : List Value} {x : DataW H × List MemPlace} (ht : P.underlying t = some (.slice s)) (hs1 : P.cellsOf s = 1) (hs : P.underlying s = some (.slice e)) (he : P.underlying e = some (.float .f64)) (hc : P.cellsOf e = 1)
    (h : DataW.trod enc P w base (fun _ => true) held fuel t cs = some x) : ∃ r : RR, cs = [r.v] ∧ r.Ok w := by
  obtain ⟨A, n, c, pts, e1, h1, h2, h3, h4⟩ := read_rows ht hs1 hs he hc h
  have hl : pts.length = n := by have := h1.1; simpa using this
  have hv : (pts.map fun p => (⟨p.A, p.c, p.xs⟩ : TP)).map TP.v = pts.map Lox.Pt.v := by
    rw [List.map_map]
    refine List.map_congr_left fun p hp => ?_
    have h5 := (h4 p hp).1.1
    have h6 : p.xs.length = p.n := by simpa [flts] using h5
    show Value.slice p.A p.xs.length p.c = .slice p.A p.n p.c
    rw [h6]
  refine ⟨⟨A, c, pts.map fun p => ⟨p.A, p.c, p.xs⟩⟩, ?_, ?_, ?_, ?_⟩
  · rw [e1]; simp only [RR.v, List.length_map, hl]
  · rw [List.length_map, hv, hl]; exact h1
  · intro q hq
    obtain ⟨p, hp, rfl⟩ := List.mem_map.1 hq
    have h5 := (h4 p hp).1
    have h6 : p.xs.length = p.n := by have := h5.1; simpa [flts] using this
    exact ⟨by show Sl w p.A p.xs.length 1 _; rw [h6]; exact h5, by show p.xs.length ≤ _; rw [h6]; exact (h4 p hp).2⟩
  · show (List.map _ pts).length ≤ _
    rw [List.length_map]; omega
end
end Go.Proofs.YtpamoleocjdjiaaDoor
