/- Float numbers that are compared: what has an order with something is equal to itself. Conditions: none. -/
import Derived.Test.YtmeooadgdagiiaaSl
namespace Lox
open Go Go.RowKit

theorem run_store_flt (P : Program) (w : World) (a : Addr) (m : Mode) (k : FloatKind) (x : Nat) : (store a (.float k x) m).run P w = stored P w a (.float k x) m := run_store P w a _ m rfl

theorem run_store_fn (P : Program) (w : World) (a : Addr) (m : Mode) (f : Fn) (b : Array Value) (c : Array Value) : (store a (.func f b c) m).run P w = stored P w a (.func f b c) m := run_store P w a _ m rfl

theorem datum_order_self (d : Ieee.Datum) : d.order d = if d.isNaN then none else some .eq := by
  cases d with
  | number s m i => simp [Ieee.Datum.order, Ieee.Datum.isNaN, compare, compareOfLessAndEq]
  | infinity s => simp [Ieee.Datum.order, Ieee.Datum.isNaN, compare, compareOfLessAndEq]
  | nan s t => simp [Ieee.Datum.order, Ieee.Datum.isNaN]

theorem datum_order_num (d e : Ieee.Datum) (h : d.order e ≠ none) : d.isNaN = false ∧ e.isNaN = false := by
  cases d <;> cases e <;> simp [Ieee.Datum.order, Ieee.Datum.isNaN] at h ⊢

/-- A float number, by its bits, that is a number (or infinite). -/
def Num (x : Nat) : Prop := (FloatKind.f64.decode x).isNaN = false

theorem Num.of_order {x y : Nat} {o : Ordering} (h : FloatKind.f64.format.order x y = some o) : Num x :=
  (datum_order_num (FloatKind.f64.decode x) (FloatKind.f64.decode y) (by
    show FloatKind.f64.format.order x y ≠ none
    rw [h]; simp)).1

theorem Num.self {x : Nat} (h : Num x) : FloatKind.f64.format.order x x = some .eq := by
  have := datum_order_self (FloatKind.f64.decode x)
  rw [h] at this
  exact this
end Lox
namespace Lox
open Go Go.RowKit

/-- A point: a slice of float numbers. -/
structure Pt where
  A : Option Addr
  n : Nat
  c : Nat
  xs : List Nat

instance : Inhabited Pt := ⟨⟨none, 0, 0, []⟩⟩

def Pt.v (p : Pt) : Value := .slice p.A p.n p.c
def Pt.Ok (w : World) (p : Pt) : Prop := Sl w p.A p.n 1 (flts p.xs) ∧ p.n ≤ 9223372036854775807

theorem Pt.Ok.len {w : World} {p : Pt} (h : p.Ok w) : p.xs.length = p.n := by have := h.1.1; simpa [flts] using this

theorem Pt.Ok.cell {w : World} {p : Pt} (h : p.Ok w) {k : Nat} (hk : k < p.n) : ∃ b o, p.A = some ⟨b, o, none⟩ ∧ w.cell? ⟨b, o + k, none⟩ = some (.float .f64 (p.xs.getD k 0)) := by
  obtain ⟨b, o, v, e1, e2, e3⟩ := h.1.at1 hk
  have hl := h.len
  rw [flts_getD (by omega)] at e2
  cases e2
  exact ⟨b, o, e1, e3⟩
end Lox
