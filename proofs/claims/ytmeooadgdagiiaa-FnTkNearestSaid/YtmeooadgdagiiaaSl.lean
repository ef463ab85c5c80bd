/- Slices that are read: nil, empty or not, wherever they lie; and copies of them. Conditions: none. -/
import Derived.Test.YtmeooadgdagiiaaKit
import Derived.Deep.AppendLies
namespace Lox
open Go Go.RowKit

theorem addr_lit (b o n : Nat) : (⟨b, o, none⟩ : Addr).add n = ⟨b, o + n, none⟩ := Addr.add_lit b o n

/-- A slice value of n elements, of size cells each, reads as the cells xs. -/
def Sl (w : World) (A : Option Addr) (n size : Nat) (xs : List Value) : Prop :=
  xs.length = n * size ∧ (0 < n → ∃ b o, A = some ⟨b, o, none⟩ ∧ ∀ j v, xs[j]? = some v → w.cell? ⟨b, o + j, none⟩ = some v)

section Sl
variable {w w' : World} {A : Option Addr} {n size : Nat} {xs : List Value}

theorem Sl.keep (h : Sl w A n size xs) (hk : ∀ p : Addr, p.block < w.heap.size → w'.cell? p = w.cell? p) : Sl w' A n size xs :=
  ⟨h.1, fun hn => by
    obtain ⟨b, o, e, hc⟩ := h.2 hn
    exact ⟨b, o, e, fun j v hv => (hk _ (lt_of_cell (hc j v hv))).trans (hc j v hv)⟩⟩

theorem Sl.mod (h : Sl w A n size xs) (hm : Mod (fun _ => False) w w') : Sl w' A n size xs :=
  h.keep fun _ hp => hm.cell hp (fun h => h)

theorem Sl.alloc (h : Sl w A n size xs) (o : Obj) : Sl (w.alloc o) A n size xs := h.mod ((Mod.refl _ _).alloc o)
theorem Sl.drew (h : Sl w A n size xs) : Sl w.drew A n size xs := h

/-- The cells that are read lie below block B. -/
def Far (B : Nat) (A : Option Addr) (n : Nat) : Prop := 0 < n → ∀ b o, A = some ⟨b, o, none⟩ → b < B

theorem Sl.far (h : Sl w A n size xs) (hs : 0 < size) : Far w.heap.size A n := fun hn b o e => by
  obtain ⟨b', o', e', hc⟩ := h.2 hn
  rw [e] at e'
  cases e'
  have hl : 0 < xs.length := by rw [h.1]; exact Nat.mul_pos hn hs
  have := lt_of_cell (hc 0 _ (List.getElem?_eq_getElem hl))
  exact this

theorem Sl.below {B : Nat} (h : Sl w A n size xs) (hf : Far B A n) (hb : ∀ k, k < B → w'.heap[k]? = w.heap[k]?) : Sl w' A n size xs :=
  ⟨h.1, fun hn => by
    obtain ⟨b, o, e, hc⟩ := h.2 hn
    exact ⟨b, o, e, fun j v hv => (World.cell?_of_block (hb b (hf hn b o e))).trans (hc j v hv)⟩⟩

theorem Sl.nil (w : World) (size : Nat) : Sl w none 0 size [] := ⟨by simp, fun h => by omega⟩

/-- The cell of an element of one cell. -/
theorem Sl.at1 (h : Sl w A n 1 xs) {k : Nat} (hk : k < n) : ∃ b o v, A = some ⟨b, o, none⟩ ∧ xs[k]? = some v ∧ w.cell? ⟨b, o + k, none⟩ = some v := by
  obtain ⟨b, o, e, hc⟩ := h.2 (by omega)
  have hl : k < xs.length := by rw [h.1]; omega
  exact ⟨b, o, xs[k], e, List.getElem?_eq_getElem hl, hc k _ (List.getElem?_eq_getElem hl)⟩
end Sl

/-- Float numbers, by their bits, as cells. -/
def flts (xs : List Nat) : List Value := xs.map (Value.float .f64)

theorem flts_at {xs : List Nat} {i x : Nat} (h : xs[i]? = some x) : (flts xs)[i]? = some (.float .f64 x) := by simp [flts, h]
theorem flts_getD {xs : List Nat} {i : Nat} (h : i < xs.length) : (flts xs)[i]? = some (.float .f64 (xs.getD i 0)) := by simp [flts, h]
end Lox
