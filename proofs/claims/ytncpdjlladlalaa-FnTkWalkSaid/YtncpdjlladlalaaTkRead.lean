/- How a list of nodes of a k-d tree that came in reads. Conditions: none. -/
import Derived.Test.YtncpdjlladlalaaTkFl
import Derived.Test.YtncpdjlladlalaaRead
namespace Go.Proofs.Ytncpdjlladlalaa
open Go.RowKit Go.ChangeShapes Go.WideShapes Go.Deep Lox
set_option linter.unusedVariables false

theorem cells_knode : Try.prog.cellsOf 43 = 6 := by kernel_rfl
theorem cells_f64 : Try.prog.cellsOf 28 = 1 := by kernel_rfl

theorem read_knodes {H : Type} {enc : TypeId × Value → H} {w : World} {held : Bool} {T : Option Addr} {n c : Nat} {d : DataW H} {p : List MemPlace}
    (h : DataW.Trod enc Try.prog w 0 (fun _ => true) held 37 (.slice T n c) d p) : ∃ xs : List KN, n = xs.length ∧ KNodes w T xs := by
  obtain ⟨fuel, hf⟩ := h
  rcases open_slice_fields Try.underlying37 Try.underlying43 (by kernel_rfl) cells_knode hf with ⟨hcs, _⟩ | ⟨a, len, cap, m, hcs, hl, hm, hmm, hx⟩
  · simp [Value.cells] at hcs
    obtain ⟨rfl, rfl, rfl⟩ := hcs
    exact ⟨[], rfl, by simp, fun h => by simp at h, fun x hx => by cases hx⟩
  · simp [Value.cells] at hcs
    obtain ⟨rfl, rfl, rfl⟩ := hcs
    have hmc : m = c := by rw [hmm]; simp
    have key : ∀ i, i < n → ∃ x : KN, x.Ok w ∧ w.cell? (a.add (i * 6)) = some x.p.v ∧ w.cell? (a.add (i * 6 + 1)) = some (.int .i64 x.pl) ∧ w.cell? (a.add (i * 6 + 2)) = some (.int .i64 x.c) ∧ w.cell? (a.add (i * 6 + 3)) = some (.int .i64 x.f) ∧ w.cell? (a.add (i * 6 + 4)) = some x.mn.v ∧ w.cell? (a.add (i * 6 + 5)) = some x.mx.v := fun i hi => by
      obtain ⟨k, hf⟩ := hx i (by omega)
      obtain ⟨v0, y0, c0, t0⟩ := hf 0 _ rfl
      obtain ⟨v1, y1, c1, t1⟩ := hf 1 _ rfl
      obtain ⟨v2, y2, c2, t2⟩ := hf 2 _ rfl
      obtain ⟨v3, y3, c3, t3⟩ := hf 3 _ rfl
      obtain ⟨v4, y4, c4, t4⟩ := hf 4 _ rfl
      obtain ⟨v5, y5, c5, t5⟩ := hf 5 _ rfl
      obtain ⟨A, q, c', ys, e0, s0, l0, m0, _⟩ := read_floats Try.underlying27 Try.underlying28 cells_f64 t0
      obtain ⟨pl, e1, _⟩ := DataW.trod_int Try.underlying3 t1
      obtain ⟨cl, e2, _⟩ := DataW.trod_int Try.underlying3 t2
      obtain ⟨fu, e3, _⟩ := DataW.trod_int Try.underlying3 t3
      obtain ⟨A1, q1, k1, ys1, e4, s4, l4, m4, _⟩ := read_floats Try.underlying27 Try.underlying28 cells_f64 t4
      obtain ⟨A2, q2, k2, ys2, e5, s5, l5, m5, _⟩ := read_floats Try.underlying27 Try.underlying28 cells_f64 t5
      rw [List.cons.injEq] at e0 e1 e2 e3 e4 e5
      rw [e0.1] at c0
      rw [e1.1] at c1
      rw [e2.1] at c2
      rw [e3.1] at c3
      rw [e4.1] at c4
      rw [e5.1] at c5
      exact ⟨⟨⟨A, q, c', ys⟩, pl, cl, fu, ⟨A1, q1, k1, ys1⟩, ⟨A2, q2, k2, ys2⟩⟩, ⟨⟨s0, by show q ≤ _; omega⟩, ⟨s4, by show q1 ≤ _; omega⟩, ⟨s5, by show q2 ≤ _; omega⟩⟩, c0, c1, c2, c3, c4, c5⟩
    obtain ⟨F, hF⟩ := choose_lt key
    refine ⟨(List.range n).map F, by simp, by unfold maxLen at hm; simp; omega, fun h0 => ?_, fun x hx => ?_⟩
    · have hn : 0 < n := by simpa using h0
      obtain ⟨b', o', e'⟩ : ∃ b' o', a = ⟨b', o', none⟩ := by
        have h1 := (hF 0 hn).2.1
        obtain ⟨ab, ao, sp⟩ := a
        have hs : sp = none := by simpa [Addr.add] using World.cell?_spot h1
        exact ⟨ab, ao, by rw [hs]⟩
      subst e'
      refine ⟨b', o', rfl, fun i x hi => ?_⟩
      rw [List.getElem?_map] at hi
      by_cases hj : i < n
      · rw [List.getElem?_range hj] at hi
        simp only [Option.map_some, Option.some.injEq] at hi
        subst hi
        obtain ⟨_, k0, k1, k2, k3, k4, k5⟩ := hF i hj
        rw [addr_lit] at k0 k1 k2 k3 k4 k5
        exact ⟨k0, k1, k2, k3, k4, k5⟩
      · rw [List.getElem?_eq_none (by simp; omega)] at hi
        cases hi
    · obtain ⟨i, hi, rfl⟩ := List.mem_map.1 hx
      exact (hF i (List.mem_range.1 hi)).1
end Go.Proofs.Ytncpdjlladlalaa
