/- Steps of a proof, one behind another: General lemmas on memory blocks and frames, used by the walks of this seat: nothing of the program in sight. Slices that are read: nil, empty or not, wherever they lie; and copies of them. Float numbers that are compared: what has an order with something is equal to itself. Finite float numbers as whole numbers, in their order. Heaps with the greatest first, as lists: what the library's up and down make of them. Nothing of the program in sight. A keeper's heap in memory. The heap of a keeper within a distance in memory: the mark's number is that distance. The walks of a keeper's Len, Less and Swap. The walk of a keeper's Swap. Conditions: as each theorem says. -/
import Derived.WalkKit
import Derived.WalkSpells
import Derived.WalkLawsBesides
import Derived.BigRegion
import Derived.BigQuiet
import Derived.Lib.Hide
import Derived.Deep.AppendLies
import Derived.Test.YtmeooadgdagiiaaGreatRows
import Derived.Deep.QuietTactic

namespace Lox
open Go Go.RowKit

/-- Block b holds just these cells, and may be written. -/
def Blk (w : World) (b : Nat) (T : TypeId) (xs : List Value) : Prop := w.heap[b]? = some (.cells xs.toArray T (0, 0))

/-- From w to w' only blocks of S, and new ones, may have turned. -/
structure Mod (S : Nat → Prop) (w w' : World) : Prop where
  os : w'.os = w.os
  tape : w'.tape = w.tape
  output : w'.output = w.output
  size : w.heap.size ≤ w'.heap.size
  block : ∀ k, k < w.heap.size → ¬ S k → w'.heap[k]? = w.heap[k]?

theorem lt_of_cell {w : World} {a : Addr} {v : Value} (h : w.cell? a = some v) : a.block < w.heap.size := by
  unfold World.cell? at h
  rcases Nat.lt_or_ge a.block w.heap.size with h1 | h1
  · exact h1
  · rw [Array.getElem?_eq_none h1] at h; cases h

section Blk
variable {w : World} {b : Nat} {T : TypeId} {xs : List Value}

theorem Blk.lt (h : Blk w b T xs) : b < w.heap.size := (Array.getElem?_eq_some_iff.1 h).1

theorem Blk.cell (h : Blk w b T xs) (i : Nat) : w.cell? ⟨b, i, none⟩ = xs[i]? := by
  unfold Blk at h
  simp [World.cell?, h]

theorem Blk.at {i : Nat} {v : Value} (h : Blk w b T xs) (hv : xs[i]? = some v) : w.cell? ⟨b, i, none⟩ = some v := by rw [h.cell, hv]

theorem Blk.frozen (h : Blk w b T xs) (i : Nat) : w.frozen? ⟨b, i, none⟩ = false := by
  unfold Blk at h
  simp [World.frozen?, h]

theorem Blk.shape (h : Blk w b T xs) : w.shape? b = some (T, xs.length) := by
  unfold Blk at h
  simp [World.shape?, h]

theorem Blk.set (h : Blk w b T xs) (i : Nat) (v : Value) : Blk (w.setCell ⟨b, i, none⟩ v) b T (xs.set i v) := by
  unfold Blk at *
  simp [World.setCell, Array.getElem?_modify, h]

theorem Blk.other (h : Blk w b T xs) {a : Addr} (v : Value) (hne : a.block ≠ b) : Blk (w.setCell a v) b T xs := by
  unfold Blk at *
  rw [Below.heap_setCell _ _ _ _ (Ne.symm hne)]; exact h

theorem Blk.alloc (h : Blk w b T xs) (o : Obj) : Blk (w.alloc o) b T xs := by
  have := h.lt
  unfold Blk at *
  rw [Below.heap_alloc _ _ _ this]; exact h

theorem Blk.new (w : World) (xs : List Value) (T : TypeId) : Blk (w.alloc (.cells xs.toArray T)) w.heap.size T xs := by
  unfold Blk World.alloc
  simp

theorem Blk.new' (w : World) (c : Array Value) (T : TypeId) : Blk (w.alloc (.cells c T)) w.heap.size T c.toList := by
  unfold Blk World.alloc
  simp

theorem Blk.drew (h : Blk w b T xs) : Blk w.drew b T xs := h

theorem Blk.mod {w' : World} {S : Nat → Prop} (h : Blk w b T xs) (hm : Mod S w w') (hs : ¬ S b) : Blk w' b T xs := by
  have := hm.block b h.lt hs
  unfold Blk at *
  rw [this, h]

theorem Blk.below {w' : World} {B : Nat} (h : Blk w b T xs) (hm : Below B w w') (hs : b < B) : Blk w' b T xs := by
  have := hm.block b hs
  unfold Blk at *
  rw [this, h]

theorem Blk.grown {w' : World} {row : Option Nat} (h : Blk w b T xs) (hm : w.grownBy w' row) (hs : some b ≠ row) : Blk w' b T xs := by
  have := hm.block b h.lt hs
  unfold Blk at *
  rw [this, h]
end Blk

section Mod
variable {S S' : Nat → Prop} {a b c w w' : World}

theorem Mod.refl (S : Nat → Prop) (w : World) : Mod S w w := ⟨rfl, rfl, rfl, Nat.le_refl _, fun _ _ _ => rfl⟩

theorem Mod.trans (h : Mod S a b) (k : Mod S b c) : Mod S a c :=
  ⟨k.os.trans h.os, k.tape.trans h.tape, k.output.trans h.output, Nat.le_trans h.size k.size,
    fun i hi hs => (k.block i (Nat.lt_of_lt_of_le hi h.size) hs).trans (h.block i hi hs)⟩

theorem Mod.trans' (h : Mod S a b) (k : Mod S' b c) (hs : ∀ i, i < a.heap.size → S' i → S i) : Mod S a c :=
  ⟨k.os.trans h.os, k.tape.trans h.tape, k.output.trans h.output, Nat.le_trans h.size k.size,
    fun i hi hn => (k.block i (Nat.lt_of_lt_of_le hi h.size) (fun h' => hn (hs i hi h'))).trans (h.block i hi hn)⟩

theorem Mod.mono (h : Mod S a b) (hs : ∀ i, i < a.heap.size → S i → S' i) : Mod S' a b :=
  ⟨h.os, h.tape, h.output, h.size, fun i hi hn => h.block i hi (fun h' => hn (hs i hi h'))⟩

theorem Mod.alloc (h : Mod S a w) (o : Obj) : Mod S a (w.alloc o) :=
  h.trans ⟨rfl, rfl, rfl, by simp, fun k hk _ => Below.heap_alloc _ _ _ hk⟩

theorem Mod.drew (h : Mod S a w) : Mod S a w.drew := ⟨h.os, h.tape, h.output, h.size, h.block⟩

theorem Mod.set (h : Mod S a w) {p : Addr} (hp : S p.block ∨ a.heap.size ≤ p.block) (v : Value) : Mod S a (w.setCell p v) := by
  refine ⟨h.os, h.tape, h.output, by simpa [World.setCell] using h.size, fun k hk hn => ?_⟩
  rw [Below.heap_setCell _ _ _ _ (by rintro rfl; rcases hp with hp | hp; exact hn hp; omega)]
  exact h.block k hk hn

theorem Mod.grown {row : Option Nat} (h : Mod S a w) (hg : w.grownBy w' row) (hr : ∀ k, row = some k → k < a.heap.size → S k) : Mod S a w' :=
  ⟨hg.os.trans h.os, hg.tape.trans h.tape, hg.output.trans h.output, Nat.le_trans h.size hg.size,
    fun k hk hn => (hg.block k (Nat.lt_of_lt_of_le hk h.size) (fun e => hn (hr k e.symm hk))).trans (h.block k hk hn)⟩

theorem Mod.toBelow (h : Mod (fun _ => False) w w') : Below w.heap.size w w' := ⟨h.os, h.tape, h.output, h.size, fun k hk => h.block k hk (fun h => h)⟩

theorem Mod.ofBelow (h : Below w.heap.size w w') : Mod (fun _ => False) w w' := ⟨h.os, h.tape, h.output, h.size, fun k hk _ => h.block k hk⟩

theorem Mod.cell (h : Mod S w w') {p : Addr} (hp : p.block < w.heap.size) (hs : ¬ S p.block) : w'.cell? p = w.cell? p :=
  World.cell?_of_block (w := w) (h.block p.block hp hs)

theorem Mod.frozen (h : Mod S w w') {p : Addr} (hp : p.block < w.heap.size) (hs : ¬ S p.block) : w'.frozen? p = w.frozen? p :=
  World.frozen?_of_block (w := w) (h.block p.block hp hs)
end Mod

/-- Numbers as cells. -/
def ints (xs : List Int) : List Value := xs.map (Value.int .i64)

theorem ints_at {xs : List Int} {i : Nat} {x : Int} (h : xs[i]? = some x) : (ints xs)[i]? = some (.int .i64 x) := by simp [ints, h]

theorem ints_set (xs : List Int) (i : Nat) (x : Int) : (ints xs).set i (.int .i64 x) = ints (xs.set i x) := by simp [ints, List.map_set]

end Lox

namespace Lox
open Go Go.RowKit

theorem addr_lit (b o n : Nat) : (⟨b, o, none⟩ : Addr).add n = ⟨b, o + n, none⟩ := Addr.add_lit b o n

/-- A slice value of n elements, of size cells each, reads as the cells xs. -/
def Sl (w : World) (A : Option Addr) (n size : Nat) (xs : List Value) : Prop :=
  xs.length = n * size ∧ (0 < n → ∃ b o, A = some ⟨b, o, none⟩ ∧ ∀ j v, xs[j]? = some v → w.cell? ⟨b, o + j, none⟩ = some v)

section Sl
variable {w w' : World} {A : Option Addr} {n size : Nat} {xs : List Value}

theorem Sl.keep (h : Sl w A n size xs) (hk : ∀ p : Addr, p.block < w.heap.size → w'.cell? p = w.cell? p) : Sl w' A n size xs :=
  ⟨h.1, fun hn => by
    obtain ⟨b, o, e, hc⟩ := h.2 hn
    exact ⟨b, o, e, fun j v hv => (hk _ (lt_of_cell (hc j v hv))).trans (hc j v hv)⟩⟩

theorem Sl.mod (h : Sl w A n size xs) (hm : Mod (fun _ => False) w w') : Sl w' A n size xs :=
  h.keep fun _ hp => hm.cell hp (fun h => h)

theorem Sl.alloc (h : Sl w A n size xs) (o : Obj) : Sl (w.alloc o) A n size xs := h.mod ((Mod.refl _ _).alloc o)
theorem Sl.drew (h : Sl w A n size xs) : Sl w.drew A n size xs := h

/-- The cells that are read lie below block B. -/
def Far (B : Nat) (A : Option Addr) (n : Nat) : Prop := 0 < n → ∀ b o, A = some ⟨b, o, none⟩ → b < B

theorem Sl.far (h : Sl w A n size xs) (hs : 0 < size) : Far w.heap.size A n := fun hn b o e => by
  obtain ⟨b', o', e', hc⟩ := h.2 hn
  rw [e] at e'
  cases e'
  have hl : 0 < xs.length := by rw [h.1]; exact Nat.mul_pos hn hs
  have := lt_of_cell (hc 0 _ (List.getElem?_eq_getElem hl))
  exact this

theorem Sl.below {B : Nat} (h : Sl w A n size xs) (hf : Far B A n) (hb : ∀ k, k < B → w'.heap[k]? = w.heap[k]?) : Sl w' A n size xs :=
  ⟨h.1, fun hn => by
    obtain ⟨b, o, e, hc⟩ := h.2 hn
    exact ⟨b, o, e, fun j v hv => (World.cell?_of_block (hb b (hf hn b o e))).trans (hc j v hv)⟩⟩

theorem Sl.nil (w : World) (size : Nat) : Sl w none 0 size [] := ⟨by simp, fun h => by omega⟩

/-- The cell of an element of one cell. -/
theorem Sl.at1 (h : Sl w A n 1 xs) {k : Nat} (hk : k < n) : ∃ b o v, A = some ⟨b, o, none⟩ ∧ xs[k]? = some v ∧ w.cell? ⟨b, o + k, none⟩ = some v := by
  obtain ⟨b, o, e, hc⟩ := h.2 (by omega)
  have hl : k < xs.length := by rw [h.1]; omega
  exact ⟨b, o, xs[k], e, List.getElem?_eq_getElem hl, hc k _ (List.getElem?_eq_getElem hl)⟩
end Sl

/-- Float numbers, by their bits, as cells. -/
def flts (xs : List Nat) : List Value := xs.map (Value.float .f64)

theorem flts_at {xs : List Nat} {i x : Nat} (h : xs[i]? = some x) : (flts xs)[i]? = some (.float .f64 x) := by simp [flts, h]
theorem flts_getD {xs : List Nat} {i : Nat} (h : i < xs.length) : (flts xs)[i]? = some (.float .f64 (xs.getD i 0)) := by simp [flts, h]
end Lox

namespace Lox
open Go Go.RowKit

theorem run_store_flt (P : Program) (w : World) (a : Addr) (m : Mode) (k : FloatKind) (x : Nat) : (store a (.float k x) m).run P w = stored P w a (.float k x) m := run_store P w a _ m rfl

theorem run_store_fn (P : Program) (w : World) (a : Addr) (m : Mode) (f : Fn) (b : Array Value) (c : Array Value) : (store a (.func f b c) m).run P w = stored P w a (.func f b c) m := run_store P w a _ m rfl

theorem datum_order_self (d : Ieee.Datum) : d.order d = if d.isNaN then none else some .eq := by
  cases d with
  | number s m i => simp [Ieee.Datum.order, Ieee.Datum.isNaN, compare, compareOfLessAndEq]
  | infinity s => simp [Ieee.Datum.order, Ieee.Datum.isNaN, compare, compareOfLessAndEq]
  | nan s t => simp [Ieee.Datum.order, Ieee.Datum.isNaN]

theorem datum_order_num (d e : Ieee.Datum) (h : d.order e ≠ none) : d.isNaN = false ∧ e.isNaN = false := by
  cases d <;> cases e <;> simp [Ieee.Datum.order, Ieee.Datum.isNaN] at h ⊢

/-- A float number, by its bits, that is a number (or infinite). -/
def Num (x : Nat) : Prop := (FloatKind.f64.decode x).isNaN = false

theorem Num.of_order {x y : Nat} {o : Ordering} (h : FloatKind.f64.format.order x y = some o) : Num x :=
  (datum_order_num (FloatKind.f64.decode x) (FloatKind.f64.decode y) (by
    show FloatKind.f64.format.order x y ≠ none
    rw [h]; simp)).1

theorem Num.self {x : Nat} (h : Num x) : FloatKind.f64.format.order x x = some .eq := by
  have := datum_order_self (FloatKind.f64.decode x)
  rw [h] at this
  exact this
end Lox
namespace Lox
open Go Go.RowKit

/-- A point: a slice of float numbers. -/
structure Pt where
  A : Option Addr
  n : Nat
  c : Nat
  xs : List Nat

instance : Inhabited Pt := ⟨⟨none, 0, 0, []⟩⟩

def Pt.v (p : Pt) : Value := .slice p.A p.n p.c
def Pt.Ok (w : World) (p : Pt) : Prop := Sl w p.A p.n 1 (flts p.xs) ∧ p.n ≤ 9223372036854775807

theorem Pt.Ok.len {w : World} {p : Pt} (h : p.Ok w) : p.xs.length = p.n := by have := h.1.1; simpa [flts] using this

theorem Pt.Ok.cell {w : World} {p : Pt} (h : p.Ok w) {k : Nat} (hk : k < p.n) : ∃ b o, p.A = some ⟨b, o, none⟩ ∧ w.cell? ⟨b, o + k, none⟩ = some (.float .f64 (p.xs.getD k 0)) := by
  obtain ⟨b, o, v, e1, e2, e3⟩ := h.1.at1 hk
  have hl := h.len
  rw [flts_getD (by omega)] at e2
  cases e2
  exact ⟨b, o, e1, e3⟩
end Lox

namespace Lox
open Go Go.RowKit
set_option linter.unusedVariables false

/-- A finite float number, by its bits. -/
def Fin (x : Nat) : Prop := ∃ s m i, FloatKind.f64.decode x = .number s m i

/-- Its value, as a multiple of the least one. -/
def fk (x : Nat) : Int := match FloatKind.f64.decode x with
  | .number s m i => Ieee.signed s m (i + 1074).toNat
  | _ => 0

theorem read_place {x : Nat} {s : Bool} {m : Nat} {i : Int} (h : FloatKind.f64.decode x = .number s m i) : -1074 ≤ i := by
  unfold FloatKind.decode Ieee.Format.read at h
  have e : FloatKind.f64.format.leastPlace = -1074 := rfl
  simp only [e] at h
  split at h
  · cases h; omega
  · split at h
    · cases h; omega
    · split at h <;> cases h

theorem signed_shift (s : Bool) (m a b : Nat) : Ieee.signed s m (a + b) = Ieee.signed s m a * (2 ^ b : Nat) := by
  unfold Ieee.signed
  have : m <<< (a + b) = (m <<< a) * 2 ^ b := by
    rw [Nat.shiftLeft_eq, Nat.shiftLeft_eq, Nat.pow_add, Nat.mul_assoc]
  cases s
  · simp [this]
  · simp [this, Int.neg_mul]

theorem compare_mul (a b : Int) (k : Nat) (hk : 0 < k) : compare (a * (k : Int)) (b * (k : Int)) = compare a b := by
  have hk' : (0 : Int) < k := by omega
  simp only [compare, compareOfLessAndEq]
  have h1 : (a * (k : Int) < b * (k : Int)) ↔ a < b := ⟨fun h => Int.lt_of_mul_lt_mul_right h (by omega), fun h => Int.mul_lt_mul_of_pos_right h hk'⟩
  have h2 : (a * (k : Int) = b * (k : Int)) ↔ a = b := ⟨fun h => Int.eq_of_mul_eq_mul_right (by omega) h, fun h => by rw [h]⟩
  simp only [h1, h2]

/-- Two finite numbers stand as their values do. -/
theorem order_fk {x y : Nat} (hx : Fin x) (hy : Fin y) : FloatKind.f64.format.order x y = some (compare (fk x) (fk y)) := by
  obtain ⟨s, m, i, ex⟩ := hx
  obtain ⟨t, n, j, ey⟩ := hy
  have hi := read_place ex
  have hj := read_place ey
  have ex' : FloatKind.f64.format.read x = .number s m i := ex
  have ey' : FloatKind.f64.format.read y = .number t n j := ey
  unfold Ieee.Format.order fk
  rw [ex, ey, ex', ey']
  simp only [Ieee.Datum.order]
  have e1 : (i + 1074).toNat = (i - min i j).toNat + (min i j + 1074).toNat := by omega
  have e2 : (j + 1074).toNat = (j - min i j).toNat + (min i j + 1074).toNat := by omega
  rw [e1, e2, signed_shift, signed_shift, compare_mul _ _ _ (Nat.two_pow_pos _)]

theorem ord_lt {x y : Nat} (hx : Fin x) (hy : Fin y) : (FloatKind.f64.format.order x y == some .lt) = decide (fk x < fk y) := by
  rw [order_fk hx hy]
  simp only [compare, compareOfLessAndEq]
  by_cases h : fk x < fk y
  · simp [h]
  · by_cases h2 : fk x = fk y <;> simp [h, h2]

theorem ord_gt {x y : Nat} (hx : Fin x) (hy : Fin y) : (FloatKind.f64.format.order x y == some .gt) = decide (fk y < fk x) := by
  rw [order_fk hx hy]
  simp only [compare, compareOfLessAndEq]
  by_cases h : fk x < fk y
  · simp [h]; omega
  · by_cases h2 : fk x = fk y
    · simp [h2]
    · simp [h, h2]; omega

theorem ord_eq {x y : Nat} (hx : Fin x) (hy : Fin y) : (FloatKind.f64.format.order x y == some .eq) = decide (fk x = fk y) := by
  rw [order_fk hx hy]
  simp only [compare, compareOfLessAndEq]
  by_cases h : fk x < fk y
  · simp [h]; omega
  · by_cases h2 : fk x = fk y <;> simp [h, h2]

theorem ord_le {x y : Nat} (hx : Fin x) (hy : Fin y) : (FloatKind.f64.format.order x y == some .lt || FloatKind.f64.format.order x y == some .eq) = decide (fk x ≤ fk y) := by
  rw [ord_lt hx hy, ord_eq hx hy]
  by_cases h : fk x ≤ fk y
  · simp [h]; omega
  · simp [h]; omega

theorem ord_ge {x y : Nat} (hx : Fin x) (hy : Fin y) : (FloatKind.f64.format.order x y == some .gt || FloatKind.f64.format.order x y == some .eq) = decide (fk y ≤ fk x) := by
  rw [ord_gt hx hy, ord_eq hx hy]
  by_cases h : fk y ≤ fk x
  · simp [h]; omega
  · simp [h]; omega

/-- What stands between two finite numbers is finite. -/
theorem fin_between {x lo hi : Nat} (hlo : Fin lo) (hhi : Fin hi) (h1 : (FloatKind.f64.format.order x lo == some .gt || FloatKind.f64.format.order x lo == some .eq) = true) (h2 : (FloatKind.f64.format.order x hi == some .lt || FloatKind.f64.format.order x hi == some .eq) = true) : Fin x := by
  obtain ⟨s, m, i, el⟩ := hlo
  obtain ⟨t, n, j, eh⟩ := hhi
  have el' : FloatKind.f64.format.read lo = .number s m i := el
  have eh' : FloatKind.f64.format.read hi = .number t n j := eh
  unfold Ieee.Format.order at h1 h2
  rw [el'] at h1
  rw [eh'] at h2
  cases hx : FloatKind.f64.decode x with
  | number s' m' i' => exact ⟨s', m', i', hx⟩
  | infinity s' =>
    have hx' : FloatKind.f64.format.read x = .infinity s' := hx
    rw [hx'] at h1 h2
    cases s' <;> simp [Ieee.Datum.order] at h1 h2
  | nan s' t' =>
    have hx' : FloatKind.f64.format.read x = .nan s' t' := hx
    rw [hx'] at h1
    simp [Ieee.Datum.order] at h1

theorem fin_decide {x : Nat} {s : Bool} {m : Nat} {i : Int} (h : FloatKind.f64.decode x = .number s m i) : Fin x := ⟨s, m, i, h⟩
end Lox

namespace Lox
open Go Go.RowKit
set_option linter.unusedVariables false

/-- An element of a keeper's heap: its mark (none), or a number with a point. -/
abbrev El := Option (Nat × Value)

/-- Is a at most b? The mark is the greatest. -/
def leE : El → El → Prop
  | _, none => True
  | none, some _ => False
  | some d, some e => fk d.1 ≤ fk e.1

/-- Go's Less: is a to stand nearer to the top than b? -/
def lessE : El → El → Bool
  | none, _ => true
  | some _, none => false
  | some d, some e => decide (fk e.1 < fk d.1)

theorem leE_trans {a b c : El} (h1 : leE a b) (h2 : leE b c) : leE a c := by
  cases a <;> cases b <;> cases c <;> simp_all [leE]
  omega

theorem leE_refl (a : El) : leE a a := by cases a <;> simp [leE]

theorem lessE_true {a b : El} (h : lessE a b = true) : leE b a := by
  cases a <;> cases b <;> simp_all [leE, lessE]
  omega

theorem lessE_false {a b : El} (h : lessE a b = false) : leE a b := by
  cases a <;> cases b <;> simp_all [leE, lessE]

def at' (l : List El) (i : Nat) : El := l.getD i none
def swapE (l : List El) (i j : Nat) : List El := (l.set i (at' l j)).set j (at' l i)

theorem swapE_length (l : List El) (i j : Nat) : (swapE l i j).length = l.length := by simp [swapE]

theorem at_swap {l : List El} {i j : Nat} (hi : i < l.length) (hj : j < l.length) (k : Nat) : at' (swapE l i j) k = if k = j then at' l i else if k = i then at' l j else at' l k := by
  unfold at' swapE
  simp only [List.getD_eq_getElem?_getD, List.getElem?_set, List.length_set]
  by_cases h1 : k = j
  · subst h1
    simp [hj, at']
  · by_cases h2 : k = i
    · subst h2
      simp [h1, Ne.symm h1, hi, at']
    · simp [h1, h2, Ne.symm h1, Ne.symm h2]

theorem swapE_perm {l : List El} {i j : Nat} (hi : i < l.length) (hj : j < l.length) : (swapE l i j).Perm l := by
  have h := List.set_set_perm hi hj
  unfold swapE at'
  simpa [List.getD_eq_getElem?_getD, hi, hj] using h

def par (i : Nat) : Nat := (i - 1) / 2

/-- The first n are a heap. -/
def HeapN (l : List El) (n : Nat) : Prop := ∀ i, 0 < i → i < n → leE (at' l i) (at' l (par i))

def upF (l : List El) (j : Nat) : List El :=
  if h : j = 0 then l else if lessE (at' l j) (at' l (par j)) then upF (swapE l (par j) j) (par j) else l
termination_by j
decreasing_by unfold par; omega

theorem upF_perm : ∀ (j : Nat) (l : List El), j < l.length → (upF l j).Perm l ∧ (upF l j).length = l.length := by
  intro j
  induction j using Nat.strongRecOn with
  | ind j ih =>
    intro l hj
    rw [upF]
    split
    · exact ⟨.refl _, rfl⟩
    · split
      · have hp : par j < j := by unfold par; omega
        obtain ⟨h1, h2⟩ := ih (par j) hp (swapE l (par j) j) (by rw [swapE_length]; omega)
        exact ⟨h1.trans (swapE_perm (by omega) hj), h2.trans (swapE_length _ _ _)⟩
      · exact ⟨.refl _, rfl⟩

theorem upF_heap : ∀ (j : Nat) (l : List El), j < l.length → (∀ i, 0 < i → i < l.length → i ≠ j → leE (at' l i) (at' l (par i))) →
    (∀ c, 0 < c → c < l.length → par c = j → 0 < j → leE (at' l c) (at' l (par j))) → HeapN (upF l j) l.length := by
  intro j
  induction j using Nat.strongRecOn with
  | ind j ih =>
    intro l hj h1 h2
    rw [upF]
    split
    · rename_i h0
      subst h0
      exact fun i a b => h1 i a b (by omega)
    · rename_i h0
      have hp : par j < j := by unfold par; omega
      have hpl : par j < l.length := by omega
      split
      · rename_i hl
        have hle := lessE_true hl
        have e := at_swap (l := l) hpl hj
        have := ih (par j) hp (swapE l (par j) j) (by rw [swapE_length]; omega) (fun i a b hne => ?_) (fun c a b hc hp0 => ?_)
        · rw [swapE_length] at this; exact this
        · rw [swapE_length] at b
          by_cases hij : i = j
          · subst hij
            rw [e i, if_pos rfl, e (par i), if_neg (by omega), if_pos rfl]
            exact hle
          · rw [e i, if_neg hij, if_neg hne, e (par i)]
            by_cases hpj : par i = j
            · rw [if_pos hpj]; exact h2 i a b hpj (by omega)
            · rw [if_neg hpj]
              by_cases hpp : par i = par j
              · rw [if_pos hpp]
                have := h1 i a b hij
                rw [hpp] at this
                exact leE_trans this hle
              · rw [if_neg hpp]; exact h1 i a b hij
        · rw [swapE_length] at b
          have hpp : par (par j) < par j := by unfold par at hp0 ⊢; omega
          rw [e (par (par j)), if_neg (by omega), if_neg (by omega)]
          have hup := h1 (par j) hp0 hpl (by omega)
          by_cases hcj : c = j
          · rw [e c, if_pos hcj]; exact hup
          · have hcp : par c < c := by unfold par; omega
            rw [e c, if_neg hcj, if_neg (by omega)]
            have := h1 c a b hcj
            rw [hc] at this
            exact leE_trans this hup
      · rename_i hl
        have hle := lessE_false (Bool.eq_false_iff.2 hl)
        intro i a b
        by_cases hij : i = j
        · subst hij; exact hle
        · exact h1 i a b hij

def downF (l : List El) (i n : Nat) : List El × Nat :=
  if h : n ≤ 2 * i + 1 then (l, i) else
    let j := if 2 * i + 2 < n ∧ lessE (at' l (2 * i + 2)) (at' l (2 * i + 1)) = true then 2 * i + 2 else 2 * i + 1
    if lessE (at' l j) (at' l i) then downF (swapE l i j) j n else (l, i)
termination_by n - i
decreasing_by
  have : i < j ∧ j < n := by
    show i < (if 2 * i + 2 < n ∧ lessE (at' l (2 * i + 2)) (at' l (2 * i + 1)) = true then 2 * i + 2 else 2 * i + 1) ∧ (if 2 * i + 2 < n ∧ lessE (at' l (2 * i + 2)) (at' l (2 * i + 1)) = true then 2 * i + 2 else 2 * i + 1) < n
    split <;> omega
  omega

/-- The child that stands nearer to the top. -/
def kid (l : List El) (i n : Nat) : Nat := if 2 * i + 2 < n ∧ lessE (at' l (2 * i + 2)) (at' l (2 * i + 1)) = true then 2 * i + 2 else 2 * i + 1

theorem kid_bd {l : List El} {i n : Nat} (h : ¬ n ≤ 2 * i + 1) : i < kid l i n ∧ kid l i n < n ∧ par (kid l i n) = i := by
  unfold kid par
  split <;> omega

theorem downF_eq (l : List El) (i n : Nat) : downF l i n = if n ≤ 2 * i + 1 then (l, i) else if lessE (at' l (kid l i n)) (at' l i) then downF (swapE l i (kid l i n)) (kid l i n) n else (l, i) := by
  rw [downF]
  rfl

theorem downF_perm (fuel : Nat) : ∀ (l : List El) (i n : Nat), n ≤ i + fuel → n ≤ l.length → i < n → (downF l i n).1.Perm l ∧ (downF l i n).1.length = l.length ∧ (∀ k, n ≤ k → at' (downF l i n).1 k = at' l k) ∧ i ≤ (downF l i n).2 := by
  induction fuel with
  | zero => intro l i n h1 h2 h3; omega
  | succ fuel ih =>
    intro l i n h1 h2 h3
    rw [downF_eq]
    by_cases h : n ≤ 2 * i + 1
    · rw [if_pos h]; exact ⟨.refl _, rfl, fun _ _ => rfl, Nat.le_refl _⟩
    · rw [if_neg h]
      obtain ⟨k1, k2, k3⟩ := kid_bd (l := l) h
      by_cases hl : lessE (at' l (kid l i n)) (at' l i) = true
      · rw [if_pos hl]
        obtain ⟨a, b, c, d⟩ := ih (swapE l i (kid l i n)) (kid l i n) n (by omega) (by rw [swapE_length]; exact h2) k2
        exact ⟨a.trans (swapE_perm (by omega) (by omega)), b.trans (swapE_length _ _ _), fun k hk => by
          rw [c k hk, at_swap (by omega) (by omega), if_neg (by omega), if_neg (by omega)], by omega⟩
      · rw [if_neg hl]; exact ⟨.refl _, rfl, fun _ _ => rfl, Nat.le_refl _⟩

theorem kid_le {l : List El} {i n c : Nat} (h : ¬ n ≤ 2 * i + 1) (hc0 : 0 < c) (hc : c < n) (hp : par c = i) : leE (at' l c) (at' l (kid l i n)) := by
  have hcc : c = 2 * i + 1 ∨ c = 2 * i + 2 := by unfold par at hp; omega
  unfold kid
  rcases hcc with rfl | rfl
  · split
    · rename_i h1; exact lessE_true h1.2
    · exact leE_refl _
  · split
    · exact leE_refl _
    · rename_i h1
      have : lessE (at' l (2 * i + 2)) (at' l (2 * i + 1)) = false := by
        cases h2 : lessE (at' l (2 * i + 2)) (at' l (2 * i + 1)) with
        | false => rfl
        | true => exact absurd ⟨hc, h2⟩ h1
      exact lessE_false this

theorem downF_heap (fuel : Nat) : ∀ (l : List El) (i n : Nat), n ≤ i + fuel → n ≤ l.length → i < n →
    (∀ c, 0 < c → c < n → par c ≠ i → leE (at' l c) (at' l (par c))) → (∀ c, 0 < c → c < n → par c = i → 0 < i → leE (at' l c) (at' l (par i))) → HeapN (downF l i n).1 n := by
  induction fuel with
  | zero => intro l i n h1 h2 h3; omega
  | succ fuel ih =>
    intro l i n h1 h2 h3 p1 p2
    rw [downF_eq]
    by_cases h : n ≤ 2 * i + 1
    · rw [if_pos h]
      intro c a b
      exact p1 c a b (by unfold par; omega)
    · rw [if_neg h]
      obtain ⟨k1, k2, k3⟩ := kid_bd (l := l) h
      obtain ⟨j, ej⟩ : ∃ j, j = kid l i n := ⟨_, rfl⟩
      rw [← ej] at k1 k2 k3 ⊢
      have hmax : ∀ c, 0 < c → c < n → par c = i → leE (at' l c) (at' l j) := fun c a b hp => by rw [ej]; exact kid_le h a b hp
      by_cases hl : lessE (at' l j) (at' l i) = true
      · rw [if_pos hl]
        have hle := lessE_true hl
        have e := at_swap (l := l) (i := i) (j := j) (by omega) (by omega)
        refine ih (swapE l i j) j n (by omega) (by rw [swapE_length]; exact h2) k2 (fun c a b hne => ?_) (fun c a b hp hj0 => ?_)
        · by_cases hpi : par c = i
          · rw [e (par c), if_neg hne, if_pos hpi]
            by_cases hcj : c = j
            · rw [e c, if_pos hcj]; exact hle
            · have : c ≠ i := by unfold par at hpi; omega
              rw [e c, if_neg hcj, if_neg this]; exact hmax c a b hpi
          · rw [e (par c), if_neg hne, if_neg hpi]
            by_cases hci : c = i
            · rw [e c, if_neg (by omega), if_pos hci]
              subst hci
              exact p2 j (by omega) k2 k3 a
            · have hcj : c ≠ j := fun hh => hpi (by rw [hh]; exact k3)
              rw [e c, if_neg hcj, if_neg hci]; exact p1 c a b hpi
        · have hcj : c ≠ j := by unfold par at hp; omega
          have hci : c ≠ i := by unfold par at hp; omega
          rw [k3, e i, if_neg (by omega), if_pos rfl, e c, if_neg hcj, if_neg hci]
          have := p1 c a b (by omega)
          rw [hp] at this
          exact this
      · rw [if_neg hl]
        have hle := lessE_false (Bool.eq_false_iff.2 hl)
        intro c a b
        by_cases hpi : par c = i
        · rw [hpi]; exact leE_trans (hmax c a b hpi) hle
        · exact p1 c a b hpi

/-- The first of a heap is its greatest. -/
theorem heap_top {l : List El} {n : Nat} (h : HeapN l n) : ∀ i, i < n → leE (at' l i) (at' l 0) := by
  intro i
  induction i using Nat.strongRecOn with
  | ind i ih =>
    intro hi
    by_cases h0 : i = 0
    · subst h0; exact leE_refl _
    · have hp : par i < i := by unfold par; omega
      exact leE_trans (h i (by omega) hi) (ih (par i) hp (by omega))

/-- An element more, and the heap is made right again. -/
def pushF (l : List El) (x : El) : List El := upF (l ++ [x]) l.length

theorem at_append {l : List El} {x : El} (i : Nat) : at' (l ++ [x]) i = if i < l.length then at' l i else if i = l.length then x else none := by
  unfold at'
  simp only [List.getD_eq_getElem?_getD]
  by_cases h : i < l.length
  · rw [List.getElem?_append_left h, if_pos h]
  · rw [if_neg h, List.getElem?_append_right (by omega)]
    by_cases h2 : i = l.length
    · subst h2; simp
    · rw [if_neg h2, List.getElem?_eq_none (by simp; omega)]; rfl

theorem pushF_ok {l : List El} (x : El) (h : HeapN l l.length) : (pushF l x).Perm (x :: l) ∧ HeapN (pushF l x) (pushF l x).length ∧ (pushF l x).length = l.length + 1 := by
  obtain ⟨h1, h2⟩ := upF_perm l.length (l ++ [x]) (by simp)
  have h3 := upF_heap l.length (l ++ [x]) (by simp) (fun i a b hne => by
    have hi : i < l.length := by simp at b; omega
    have hp : par i < i := by unfold par; omega
    rw [at_append, if_pos hi, at_append, if_pos (by omega)]
    exact h i a hi) (fun c a b hc h0 => by
    have : c < l.length + 1 := by simpa using b
    unfold par at hc
    omega)
  unfold pushF
  rw [h2]
  exact ⟨h1.trans (List.perm_append_comm.trans (by simp)), h3, by simp⟩

/-- The first one is replaced, and the heap is made right again. -/
def fixF (l : List El) (x : El) : List El := (downF (l.set 0 x) 0 l.length).1

theorem fixF_ok {l l' : List El} {t : El} (x : El) (hl : l = t :: l') (h : HeapN l l.length) : (fixF l x).Perm (x :: l') ∧ HeapN (fixF l x) (fixF l x).length ∧ (fixF l x).length = l.length := by
  have hlen : 0 < l.length := by rw [hl]; simp
  have hs : l.set 0 x = x :: l' := by rw [hl]; rfl
  obtain ⟨h1, h2, _, _⟩ := downF_perm l.length (l.set 0 x) 0 l.length (by omega) (by simp) hlen
  have h3 := downF_heap l.length (l.set 0 x) 0 l.length (by omega) (by simp) hlen (fun c a b hne => by
    have hp : par c < c := by unfold par; omega
    have := h c a b
    unfold at' at *
    rw [List.getD_eq_getElem?_getD, List.getD_eq_getElem?_getD, List.getElem?_set_ne (by omega), List.getElem?_set_ne (by omega)]
    rw [List.getD_eq_getElem?_getD, List.getD_eq_getElem?_getD] at this
    exact this) (fun c a b hp h0 => by omega)
  unfold fixF
  rw [h2, List.length_set]
  exact ⟨by rw [hs] at h1 ⊢; exact h1, h3, rfl⟩

/-- The first one goes. -/
def popF (l : List El) : List El := (downF (swapE l 0 (l.length - 1)) 0 (l.length - 1)).1.take (l.length - 1)

theorem popF_ok {l l' : List El} {t : El} (hl : l = t :: l') (h : HeapN l l.length) : (popF l).Perm l' ∧ HeapN (popF l) (popF l).length ∧ (popF l).length + 1 = l.length := by
  have hlen : 0 < l.length := by rw [hl]; simp
  obtain ⟨n, hn⟩ : ∃ n, n = l.length - 1 := ⟨_, rfl⟩
  unfold popF
  rw [← hn]
  have e := at_swap (l := l) (i := 0) (j := n) hlen (by omega)
  have ht : at' l 0 = t := by rw [hl]; rfl
  by_cases h0 : n = 0
  · subst h0
    have hl' : l' = [] := by
      have : l.length = l'.length + 1 := by rw [hl]; simp
      exact List.length_eq_zero_iff.1 (by omega)
    subst hl'
    simp only [List.take_zero]
    exact ⟨.refl _, fun i a b => by simp at b, by simp; omega⟩
  · obtain ⟨h1, h2, hk, _⟩ := downF_perm n (swapE l 0 n) 0 n (by omega) (by rw [swapE_length]; omega) (by omega)
    have h3 := downF_heap n (swapE l 0 n) 0 n (by omega) (by rw [swapE_length]; omega) (by omega) (fun c a b hne => by
      have hp : par c < c := by unfold par; omega
      rw [e c, if_neg (by omega), if_neg (by omega), e (par c), if_neg (by omega), if_neg hne]
      exact h c a (by omega)) (fun c a b hp h0 => by omega)
    obtain ⟨m, hm⟩ : ∃ m, m = (downF (swapE l 0 n) 0 n).1 := ⟨_, rfl⟩
    rw [← hm] at h1 h2 h3 hk ⊢
    rw [swapE_length] at h2
    have hmlen : m.length = n + 1 := by omega
    have hlast : at' m n = t := by rw [hk n (Nat.le_refl _), e n, if_pos rfl, ht]
    have hsplit : m = m.take n ++ [t] := by
      have hg : m[n]'(by omega) = t := by
        unfold at' at hlast
        rw [List.getD_eq_getElem?_getD, List.getElem?_eq_getElem (by omega)] at hlast
        simpa using hlast
      rw [← hg, ← List.take_succ_eq_append_getElem (by omega), List.take_of_length_le (by omega)]
    have hp : (t :: m.take n).Perm (t :: l') := by
      have h4 : m.Perm (t :: l') := by rw [← hl]; exact h1.trans (swapE_perm hlen (by omega))
      rw [hsplit] at h4
      exact (List.perm_append_comm.trans h4 : ([t] ++ m.take n).Perm (t :: l'))
    refine ⟨hp.cons_inv, fun i a b => ?_, by rw [List.length_take]; omega⟩
    rw [List.length_take] at b
    have hp : par i < i := by unfold par; omega
    have := h3 i a (by omega)
    unfold at' at *
    rw [List.getD_eq_getElem?_getD, List.getD_eq_getElem?_getD, List.getElem?_take_of_lt (by omega), List.getElem?_take_of_lt (by omega)]
    rw [List.getD_eq_getElem?_getD, List.getD_eq_getElem?_getD] at this
    exact this
end Lox

namespace Lox
open Go Go.RowKit
set_option linter.unusedVariables false

/-- The bits of infinity. -/
def INF : Nat := 9218868437227405312

theorem order_inf {d : Nat} (h : Fin d) : FloatKind.f64.format.order d INF = some .lt := by
  obtain ⟨s, m, i, e⟩ := h
  have e' : FloatKind.f64.format.read d = .number s m i := e
  have e2 : FloatKind.f64.format.read INF = .infinity false := by decide
  unfold Ieee.Format.order
  rw [e', e2]
  rfl

/-- What stands in memory for an element: its interface value and its number's bits. -/
def ElAt (PT : TypeId) (v : Value) (b : Nat) : El → Prop
  | none => v = .nilIface ∧ b = INF
  | some d => b = d.1 ∧ Fin d.1 ∧ v = .iface PT d.2

def flat (vs : List (Value × Nat)) : List Value := vs.flatMap fun p => [p.1, .float .f64 p.2]

theorem flat_length (vs : List (Value × Nat)) : (flat vs).length = 2 * vs.length := by
  induction vs with
  | nil => rfl
  | cons p vs ih => simp only [flat, List.flatMap_cons, List.length_append, List.length_cons, List.length_nil] at ih ⊢; omega

theorem flat_get (vs : List (Value × Nat)) : ∀ (i : Nat) (v : Value) (b : Nat), vs[i]? = some (v, b) → (flat vs)[i * 2]? = some v ∧ (flat vs)[i * 2 + 1]? = some (.float .f64 b) := by
  induction vs with
  | nil => intro i v b h; simp at h
  | cons p vs ih =>
    intro i v b h
    cases i with
    | zero =>
      simp at h
      subst h
      exact ⟨rfl, rfl⟩
    | succ i =>
      have := ih i v b (by simpa using h)
      have e : (i + 1) * 2 = i * 2 + 1 + 1 := by omega
      rw [e]
      exact ⟨this.1, this.2⟩

theorem flat_set (vs : List (Value × Nat)) : ∀ (i : Nat) (v : Value) (b : Nat), i < vs.length → ((flat vs).set (i * 2) v).set (i * 2 + 1) (.float .f64 b) = flat (vs.set i (v, b)) := by
  induction vs with
  | nil => intro i v b h; simp at h
  | cons p vs ih =>
    intro i v b h
    cases i with
    | zero => rfl
    | succ i =>
      have e : (i + 1) * 2 = i * 2 + 1 + 1 := by omega
      rw [e]
      have := ih i v b (by simpa using h)
      show p.1 :: .float .f64 p.2 :: ((flat vs).set (i * 2) v).set (i * 2 + 1) (.float .f64 b) = _
      rw [this]
      rfl

theorem flat_append (vs us : List (Value × Nat)) : flat (vs ++ us) = flat vs ++ flat us := by simp [flat]

/-- The pairs of cells hold these elements. -/
def Pairs (PT : TypeId) (vs : List (Value × Nat)) (els : List El) : Prop :=
  vs.length = els.length ∧ ∀ (i : Nat) (v : Value) (b : Nat), vs[i]? = some (v, b) → ElAt PT v b (at' els i)

theorem Pairs.get {PT : TypeId} {vs : List (Value × Nat)} {els : List El} (h : Pairs PT vs els) {i : Nat} (hi : i < els.length) : ∃ v b, vs[i]? = some (v, b) ∧ ElAt PT v b (at' els i) := by
  have hl : i < vs.length := by rw [h.1]; exact hi
  obtain ⟨p, ep⟩ : ∃ p, p = vs[i] := ⟨_, rfl⟩
  have e : vs[i]? = some (p.1, p.2) := by rw [List.getElem?_eq_getElem hl, ← ep]
  exact ⟨p.1, p.2, e, h.2 i _ _ e⟩

theorem at_set {l : List El} {i : Nat} (x : El) (hi : i < l.length) (k : Nat) : at' (l.set i x) k = if k = i then x else at' l k := by
  unfold at'
  simp only [List.getD_eq_getElem?_getD, List.getElem?_set]
  by_cases h : k = i
  · subst h; simp [hi]
  · simp [h, Ne.symm h]

theorem Pairs.set {PT : TypeId} {vs : List (Value × Nat)} {els : List El} (h : Pairs PT vs els) {i : Nat} (hi : i < els.length) {v : Value} {b : Nat} {x : El} (hx : ElAt PT v b x) : Pairs PT (vs.set i (v, b)) (els.set i x) := by
  refine ⟨by simp [h.1], fun k u c hk => ?_⟩
  rw [at_set x hi]
  rw [List.getElem?_set] at hk
  by_cases hki : i = k
  · subst hki
    rw [if_pos rfl, if_pos (by rw [h.1]; exact hi)] at hk
    cases hk
    rw [if_pos rfl]
    exact hx
  · rw [if_neg hki] at hk
    rw [if_neg (Ne.symm hki)]
    exact h.2 k u c hk

theorem Pairs.snoc {PT : TypeId} {vs : List (Value × Nat)} {els : List El} (h : Pairs PT vs els) {v : Value} {b : Nat} {x : El} (hx : ElAt PT v b x) : Pairs PT (vs ++ [(v, b)]) (els ++ [x]) := by
  refine ⟨by simp [h.1], fun k u c hk => ?_⟩
  rw [at_append]
  by_cases hkl : k < vs.length
  · rw [List.getElem?_append_left hkl] at hk
    rw [if_pos (by rw [← h.1]; exact hkl)]
    exact h.2 k u c hk
  · rw [List.getElem?_append_right (by omega)] at hk
    have hk0 : k - vs.length = 0 := by
      rcases Nat.eq_zero_or_pos (k - vs.length) with h0 | h0
      · exact h0
      · rw [List.getElem?_eq_none (by simp; omega)] at hk; cases hk
    rw [hk0] at hk
    simp at hk
    obtain ⟨rfl, rfl⟩ := hk
    rw [if_neg (by rw [← h.1]; exact hkl), if_pos (by rw [← h.1]; omega)]
    exact hx

theorem Pairs.take {PT : TypeId} {vs : List (Value × Nat)} {els : List El} (h : Pairs PT vs els) (n : Nat) : Pairs PT (vs.take n) (els.take n) := by
  refine ⟨by simp [h.1], fun k u c hk => ?_⟩
  rw [List.getElem?_take] at hk
  by_cases hkn : k < n
  · rw [if_pos hkn] at hk
    have := h.2 k u c hk
    unfold at' at *
    rw [List.getD_eq_getElem?_getD, List.getElem?_take_of_lt hkn, ← List.getD_eq_getElem?_getD]
    exact this
  · rw [if_neg hkn] at hk; cases hk

/-- A keeper's memory: its struct in block kb, its heap's array in block hb. NK, CD, PT: the types of the keeper, of an array's element, of a point. -/
def KS (NK CD PT : TypeId) (w : World) (kb hb len cap : Nat) (els : List El) : Prop :=
  ∃ vs sp, Blk w kb NK [.slice (some ⟨hb, 0, none⟩) len cap] ∧ Blk w hb CD (flat vs ++ sp) ∧ sp.length = 2 * (cap - len) ∧ len = els.length ∧ len ≤ cap ∧ Pairs PT vs els ∧ kb ≠ hb

section
variable {NK CD PT : TypeId} {w w' : World} {kb hb len cap : Nat} {els : List El}

theorem KS.drewN (h : KS NK CD PT w kb hb len cap els) (n : Nat) : KS NK CD PT (w.drewN n) kb hb len cap els := h
theorem KS.drew (h : KS NK CD PT w kb hb len cap els) : KS NK CD PT w.drew kb hb len cap els := h

theorem KS.mod {S : Nat → Prop} (h : KS NK CD PT w kb hb len cap els) (hm : Mod S w w') (h1 : ¬ S kb) (h2 : ¬ S hb) : KS NK CD PT w' kb hb len cap els := by
  obtain ⟨vs, sp, b1, b2, rest⟩ := h
  exact ⟨vs, sp, b1.mod hm h1, b2.mod hm h2, rest⟩

/-- The cells of an element. -/
theorem KS.at (h : KS NK CD PT w kb hb len cap els) {i : Nat} (hi : i < len) : ∃ v b, w.cell? ⟨hb, i * 2, none⟩ = some v ∧ w.cell? ⟨hb, i * 2 + 1, none⟩ = some (.float .f64 b) ∧ w.frozen? ⟨hb, i * 2, none⟩ = false ∧ w.frozen? ⟨hb, i * 2 + 1, none⟩ = false ∧ ElAt PT v b (at' els i) := by
  obtain ⟨vs, sp, b1, b2, hsp, hl, hc, hp, hne⟩ := h
  obtain ⟨v, b, e, he⟩ := hp.get (i := i) (by omega)
  obtain ⟨g1, g2⟩ := flat_get vs i v b e
  have hlt : i < vs.length := (List.getElem?_eq_some_iff.1 e).1
  have hfl := flat_length vs
  exact ⟨v, b, b2.at (by rw [List.getElem?_append_left (by omega)]; exact g1), b2.at (by rw [List.getElem?_append_left (by omega)]; exact g2), b2.frozen _, b2.frozen _, he⟩

theorem KS.top (h : KS NK CD PT w kb hb len cap els) : w.cell? ⟨kb, 0, none⟩ = some (.slice (some ⟨hb, 0, none⟩) len cap) ∧ w.frozen? ⟨kb, 0, none⟩ = false := by
  obtain ⟨vs, sp, b1, _⟩ := h
  exact ⟨b1.at (i := 0) rfl, b1.frozen 0⟩

/-- An element is written. -/
theorem KS.put (h : KS NK CD PT w kb hb len cap els) {i : Nat} (hi : i < len) {v : Value} {b : Nat} {x : El} (hx : ElAt PT v b x) :
    KS NK CD PT ((w.setCell ⟨hb, i * 2, none⟩ v).setCell ⟨hb, i * 2 + 1, none⟩ (.float .f64 b)) kb hb len cap (els.set i x) := by
  obtain ⟨vs, sp, b1, b2, hsp, hl, hc, hp, hne⟩ := h
  have hvl : vs.length = els.length := hp.1
  refine ⟨vs.set i (v, b), sp, (b1.other _ (Ne.symm hne)).other _ (Ne.symm hne), ?_, hsp, by simpa using hl, hc, hp.set (by omega) hx, hne⟩
  have := (b2.set (i * 2) v).set (i * 2 + 1) (.float .f64 b)
  have hfl := flat_length vs
  rw [List.set_append_left _ _ (by omega), List.set_append_left _ _ (by rw [List.length_set]; omega), flat_set vs i v b (by omega)] at this
  exact this

/-- An element more is written where there is room. -/
theorem KS.push (h : KS NK CD PT w kb hb len cap els) (hr : len < cap) {v : Value} {b : Nat} {x : El} (hx : ElAt PT v b x) :
    KS NK CD PT (((w.setCell ⟨hb, len * 2, none⟩ v).setCell ⟨hb, len * 2 + 1, none⟩ (.float .f64 b)).setCell ⟨kb, 0, none⟩ (.slice (some ⟨hb, 0, none⟩) (len + 1) cap)) kb hb (len + 1) cap (els ++ [x]) := by
  obtain ⟨vs, sp, b1, b2, hsp, hl, hc, hp, hne⟩ := h
  have hvl : vs.length = els.length := hp.1
  have hfl := flat_length vs
  match sp, hsp with
  | s0 :: s1 :: sp', hsp =>
    refine ⟨vs ++ [(v, b)], sp', ((b1.other _ (Ne.symm hne)).other _ (Ne.symm hne)).set 0 _, ?_, by simp at hsp; omega, by simp; omega, by omega, hp.snoc hx, hne⟩
    have h3 := ((b2.set (len * 2) v).set (len * 2 + 1) (.float .f64 b)).other (a := ⟨kb, 0, none⟩) (.slice (some ⟨hb, 0, none⟩) (len + 1) cap) hne
    have key : ((flat vs ++ s0 :: s1 :: sp').set (len * 2) v).set (len * 2 + 1) (.float .f64 b) = flat (vs ++ [(v, b)]) ++ sp' := by
      have e1 : len * 2 = (flat vs).length := by omega
      rw [e1, List.set_append_right _ _ (Nat.le_refl _), List.set_append_right _ _ (by omega), flat_append, List.append_assoc, Nat.sub_self, Nat.add_sub_cancel_left]
      rfl
    rw [key] at h3
    exact h3
  | [], hsp => simp at hsp; omega
  | [_], hsp => simp at hsp; omega

theorem KS.put0 (h : KS NK CD PT w kb hb len cap els) (hi : 0 < len) {v : Value} {b : Nat} {x : El} (hx : ElAt PT v b x) :
    KS NK CD PT ((w.setCell ⟨hb, 0, none⟩ v).setCell ⟨hb, 1, none⟩ (.float .f64 b)) kb hb len cap (els.set 0 x) := h.put hi hx

/-- The cells behind the last element. -/
theorem KS.room (h : KS NK CD PT w kb hb len cap els) (hr : len < cap) (j : Nat) (hj : j < 2) : (w.cell? ⟨hb, len * 2 + j, none⟩).isSome = true ∧ w.frozen? ⟨hb, len * 2 + j, none⟩ = false := by
  obtain ⟨vs, sp, b1, b2, hsp, hl, hc, hp, hne⟩ := h
  have hvl : vs.length = els.length := hp.1
  have hfl := flat_length vs
  refine ⟨?_, b2.frozen _⟩
  rw [b2.cell, List.getElem?_eq_getElem (by rw [List.length_append]; omega)]
  rfl

theorem KS.alloc (h : KS NK CD PT w kb hb len cap els) (o : Obj) : KS NK CD PT (w.alloc o) kb hb len cap els := h.mod ((Mod.refl (fun _ => False) w).alloc o) (fun h => h) (fun h => h)

theorem mod_drewN (S : Nat → Prop) (w : World) (n : Nat) : Mod S w (w.drewN n) := ⟨rfl, rfl, rfl, Nat.le_refl _, fun _ _ _ => rfl⟩

theorem mod_put {hb a b : Nat} {x y : Value} (h : Mod (fun k => k = hb) w w') : Mod (fun k => k = hb) w ((w'.setCell ⟨hb, a, none⟩ x).setCell ⟨hb, b, none⟩ y) := by
  have h1 : Mod (fun k => k = hb) w (w'.setCell ⟨hb, a, none⟩ x) := h.set (p := ⟨hb, a, none⟩) (.inl (by rfl)) x
  exact h1.set (p := ⟨hb, b, none⟩) (.inl (by rfl)) y

theorem KS.bds (h : KS NK CD PT w kb hb len cap els) : kb ≠ hb ∧ kb < w.heap.size ∧ hb < w.heap.size ∧ len = els.length ∧ len ≤ cap := by
  obtain ⟨vs, sp, b1, b2, hsp, hl, hc, hp, hne⟩ := h
  exact ⟨hne, b1.lt, b2.lt, hl, hc⟩
end
end Lox

namespace Lox
open Go Go.RowKit
set_option linter.unusedVariables false

/-- A finite number that is not above S. -/
def FinS (S d : Nat) : Prop := Fin d ∧ (FloatKind.f64.format.order d S == some .gt) = false

/-- What stands in memory for an element: its interface value and its number's bits. -/
def ElAtD (S : Nat) (PT : TypeId) (v : Value) (b : Nat) : El → Prop
  | none => v = .nilIface ∧ b = S
  | some d => b = d.1 ∧ FinS S d.1 ∧ v = .iface PT d.2

/-- The pairs of cells hold these elements. -/
def PairsD (S : Nat) (PT : TypeId) (vs : List (Value × Nat)) (els : List El) : Prop :=
  vs.length = els.length ∧ ∀ (i : Nat) (v : Value) (b : Nat), vs[i]? = some (v, b) → ElAtD S PT v b (at' els i)

theorem PairsD.get {S : Nat} {PT : TypeId} {vs : List (Value × Nat)} {els : List El} (h : PairsD S PT vs els) {i : Nat} (hi : i < els.length) : ∃ v b, vs[i]? = some (v, b) ∧ ElAtD S PT v b (at' els i) := by
  have hl : i < vs.length := by rw [h.1]; exact hi
  obtain ⟨p, ep⟩ : ∃ p, p = vs[i] := ⟨_, rfl⟩
  have e : vs[i]? = some (p.1, p.2) := by rw [List.getElem?_eq_getElem hl, ← ep]
  exact ⟨p.1, p.2, e, h.2 i _ _ e⟩

theorem PairsD.set {S : Nat} {PT : TypeId} {vs : List (Value × Nat)} {els : List El} (h : PairsD S PT vs els) {i : Nat} (hi : i < els.length) {v : Value} {b : Nat} {x : El} (hx : ElAtD S PT v b x) : PairsD S PT (vs.set i (v, b)) (els.set i x) := by
  refine ⟨by simp [h.1], fun k u c hk => ?_⟩
  rw [at_set x hi]
  rw [List.getElem?_set] at hk
  by_cases hki : i = k
  · subst hki
    rw [if_pos rfl, if_pos (by rw [h.1]; exact hi)] at hk
    cases hk
    rw [if_pos rfl]
    exact hx
  · rw [if_neg hki] at hk
    rw [if_neg (Ne.symm hki)]
    exact h.2 k u c hk

theorem PairsD.snoc {S : Nat} {PT : TypeId} {vs : List (Value × Nat)} {els : List El} (h : PairsD S PT vs els) {v : Value} {b : Nat} {x : El} (hx : ElAtD S PT v b x) : PairsD S PT (vs ++ [(v, b)]) (els ++ [x]) := by
  refine ⟨by simp [h.1], fun k u c hk => ?_⟩
  rw [at_append]
  by_cases hkl : k < vs.length
  · rw [List.getElem?_append_left hkl] at hk
    rw [if_pos (by rw [← h.1]; exact hkl)]
    exact h.2 k u c hk
  · rw [List.getElem?_append_right (by omega)] at hk
    have hk0 : k - vs.length = 0 := by
      rcases Nat.eq_zero_or_pos (k - vs.length) with h0 | h0
      · exact h0
      · rw [List.getElem?_eq_none (by simp; omega)] at hk; cases hk
    rw [hk0] at hk
    simp at hk
    obtain ⟨rfl, rfl⟩ := hk
    rw [if_neg (by rw [← h.1]; exact hkl), if_pos (by rw [← h.1]; omega)]
    exact hx

theorem PairsD.take {S : Nat} {PT : TypeId} {vs : List (Value × Nat)} {els : List El} (h : PairsD S PT vs els) (n : Nat) : PairsD S PT (vs.take n) (els.take n) := by
  refine ⟨by simp [h.1], fun k u c hk => ?_⟩
  rw [List.getElem?_take] at hk
  by_cases hkn : k < n
  · rw [if_pos hkn] at hk
    have := h.2 k u c hk
    unfold at' at *
    rw [List.getD_eq_getElem?_getD, List.getElem?_take_of_lt hkn, ← List.getD_eq_getElem?_getD]
    exact this
  · rw [if_neg hkn] at hk; cases hk

/-- A keeper's memory: its struct in block kb, its heap's array in block hb. NK, CD, PT: the types of the keeper, of an array's element, of a point. -/
def KD (S : Nat) (NK CD PT : TypeId) (w : World) (kb hb len cap : Nat) (els : List El) : Prop :=
  ∃ vs sp, Blk w kb NK [.slice (some ⟨hb, 0, none⟩) len cap] ∧ Blk w hb CD (flat vs ++ sp) ∧ sp.length = 2 * (cap - len) ∧ len = els.length ∧ len ≤ cap ∧ PairsD S PT vs els ∧ kb ≠ hb

section
variable {S : Nat} {NK CD PT : TypeId} {w w' : World} {kb hb len cap : Nat} {els : List El}

theorem KD.drewN (h : KD S NK CD PT w kb hb len cap els) (n : Nat) : KD S NK CD PT (w.drewN n) kb hb len cap els := h
theorem KD.drew (h : KD S NK CD PT w kb hb len cap els) : KD S NK CD PT w.drew kb hb len cap els := h

theorem KD.mod {R : Nat → Prop} (h : KD S NK CD PT w kb hb len cap els) (hm : Mod R w w') (h1 : ¬ R kb) (h2 : ¬ R hb) : KD S NK CD PT w' kb hb len cap els := by
  obtain ⟨vs, sp, b1, b2, rest⟩ := h
  exact ⟨vs, sp, b1.mod hm h1, b2.mod hm h2, rest⟩

/-- The cells of an element. -/
theorem KD.at (h : KD S NK CD PT w kb hb len cap els) {i : Nat} (hi : i < len) : ∃ v b, w.cell? ⟨hb, i * 2, none⟩ = some v ∧ w.cell? ⟨hb, i * 2 + 1, none⟩ = some (.float .f64 b) ∧ w.frozen? ⟨hb, i * 2, none⟩ = false ∧ w.frozen? ⟨hb, i * 2 + 1, none⟩ = false ∧ ElAtD S PT v b (at' els i) := by
  obtain ⟨vs, sp, b1, b2, hsp, hl, hc, hp, hne⟩ := h
  obtain ⟨v, b, e, he⟩ := hp.get (i := i) (by omega)
  obtain ⟨g1, g2⟩ := flat_get vs i v b e
  have hlt : i < vs.length := (List.getElem?_eq_some_iff.1 e).1
  have hfl := flat_length vs
  exact ⟨v, b, b2.at (by rw [List.getElem?_append_left (by omega)]; exact g1), b2.at (by rw [List.getElem?_append_left (by omega)]; exact g2), b2.frozen _, b2.frozen _, he⟩

theorem KD.top (h : KD S NK CD PT w kb hb len cap els) : w.cell? ⟨kb, 0, none⟩ = some (.slice (some ⟨hb, 0, none⟩) len cap) ∧ w.frozen? ⟨kb, 0, none⟩ = false := by
  obtain ⟨vs, sp, b1, _⟩ := h
  exact ⟨b1.at (i := 0) rfl, b1.frozen 0⟩

/-- An element is written. -/
theorem KD.put (h : KD S NK CD PT w kb hb len cap els) {i : Nat} (hi : i < len) {v : Value} {b : Nat} {x : El} (hx : ElAtD S PT v b x) :
    KD S NK CD PT ((w.setCell ⟨hb, i * 2, none⟩ v).setCell ⟨hb, i * 2 + 1, none⟩ (.float .f64 b)) kb hb len cap (els.set i x) := by
  obtain ⟨vs, sp, b1, b2, hsp, hl, hc, hp, hne⟩ := h
  have hvl : vs.length = els.length := hp.1
  refine ⟨vs.set i (v, b), sp, (b1.other _ (Ne.symm hne)).other _ (Ne.symm hne), ?_, hsp, by simpa using hl, hc, hp.set (by omega) hx, hne⟩
  have := (b2.set (i * 2) v).set (i * 2 + 1) (.float .f64 b)
  have hfl := flat_length vs
  rw [List.set_append_left _ _ (by omega), List.set_append_left _ _ (by rw [List.length_set]; omega), flat_set vs i v b (by omega)] at this
  exact this

/-- An element more is written where there is room. -/
theorem KD.push (h : KD S NK CD PT w kb hb len cap els) (hr : len < cap) {v : Value} {b : Nat} {x : El} (hx : ElAtD S PT v b x) :
    KD S NK CD PT (((w.setCell ⟨hb, len * 2, none⟩ v).setCell ⟨hb, len * 2 + 1, none⟩ (.float .f64 b)).setCell ⟨kb, 0, none⟩ (.slice (some ⟨hb, 0, none⟩) (len + 1) cap)) kb hb (len + 1) cap (els ++ [x]) := by
  obtain ⟨vs, sp, b1, b2, hsp, hl, hc, hp, hne⟩ := h
  have hvl : vs.length = els.length := hp.1
  have hfl := flat_length vs
  match sp, hsp with
  | s0 :: s1 :: sp', hsp =>
    refine ⟨vs ++ [(v, b)], sp', ((b1.other _ (Ne.symm hne)).other _ (Ne.symm hne)).set 0 _, ?_, by simp at hsp; omega, by simp; omega, by omega, hp.snoc hx, hne⟩
    have h3 := ((b2.set (len * 2) v).set (len * 2 + 1) (.float .f64 b)).other (a := ⟨kb, 0, none⟩) (.slice (some ⟨hb, 0, none⟩) (len + 1) cap) hne
    have key : ((flat vs ++ s0 :: s1 :: sp').set (len * 2) v).set (len * 2 + 1) (.float .f64 b) = flat (vs ++ [(v, b)]) ++ sp' := by
      have e1 : len * 2 = (flat vs).length := by omega
      rw [e1, List.set_append_right _ _ (Nat.le_refl _), List.set_append_right _ _ (by omega), flat_append, List.append_assoc, Nat.sub_self, Nat.add_sub_cancel_left]
      rfl
    rw [key] at h3
    exact h3
  | [], hsp => simp at hsp; omega
  | [_], hsp => simp at hsp; omega

theorem KD.put0 (h : KD S NK CD PT w kb hb len cap els) (hi : 0 < len) {v : Value} {b : Nat} {x : El} (hx : ElAtD S PT v b x) :
    KD S NK CD PT ((w.setCell ⟨hb, 0, none⟩ v).setCell ⟨hb, 1, none⟩ (.float .f64 b)) kb hb len cap (els.set 0 x) := h.put hi hx

/-- The cells behind the last element. -/
theorem KD.room (h : KD S NK CD PT w kb hb len cap els) (hr : len < cap) (j : Nat) (hj : j < 2) : (w.cell? ⟨hb, len * 2 + j, none⟩).isSome = true ∧ w.frozen? ⟨hb, len * 2 + j, none⟩ = false := by
  obtain ⟨vs, sp, b1, b2, hsp, hl, hc, hp, hne⟩ := h
  have hvl : vs.length = els.length := hp.1
  have hfl := flat_length vs
  refine ⟨?_, b2.frozen _⟩
  rw [b2.cell, List.getElem?_eq_getElem (by rw [List.length_append]; omega)]
  rfl

theorem KD.alloc (h : KD S NK CD PT w kb hb len cap els) (o : Obj) : KD S NK CD PT (w.alloc o) kb hb len cap els := h.mod ((Mod.refl (fun _ => False) w).alloc o) (fun h => h) (fun h => h)

theorem KD.bds (h : KD S NK CD PT w kb hb len cap els) : kb ≠ hb ∧ kb < w.heap.size ∧ hb < w.heap.size ∧ len = els.length ∧ len ≤ cap := by
  obtain ⟨vs, sp, b1, b2, hsp, hl, hc, hp, hne⟩ := h
  exact ⟨hne, b1.lt, b2.lt, hl, hc⟩
end
end Lox

namespace Go.Proofs.YtmeooadgdagiiaaGreat.K.D
open Go.RowKit Lox
set_option linter.unusedVariables false
variable {S : Nat}
attribute [local go_sem] run_store_flt run_store_fn undef

abbrev DKS (S : Nat) (w : World) (kb hb len cap : Nat) (els : List El) : Prop := KD S 66 95 50 w kb hb len cap els

set_option maxHeartbeats 1000000 in
theorem klen_at (w : World) (kb hb len cap : Nat) (els : List El) (h : DKS S w kb hb len cap els) :
    Calls Tryz.prog 104 #[.pointer (some ⟨kb, 0, none⟩)] w fun e w' => e = .returned (.int .i64 len) ∧ w = w' := by
  have c0 := h.top.1
  clear h
  go_enter Tryz.func104, Tryz.ntmps104
  go_wp2
  go_ret
  exact ⟨rfl, rfl⟩

set_option maxHeartbeats 4000000 in
theorem kless_at (w : World) (kb hb len cap : Nat) (els : List El) (i j : Nat) (I J : Int) (hI : I = i) (hJ : J = j) (h : DKS S w kb hb len cap els) (hi : i < len) (hj : j < len) (hl : len ≤ 1099511627776) :
    Calls Tryz.prog 105 #[.pointer (some ⟨kb, 0, none⟩), .int .i64 I, .int .i64 J] w fun e w' => e = .returned (.bool (lessE (at' els i) (at' els j))) ∧ ∃ n, w' = w.drewN n := by
  subst hI hJ
  have c0 := h.top.1
  obtain ⟨v, b, d0, d1, _, _, he⟩ := h.at hi
  obtain ⟨u, c, g0, g1, _, _, hf⟩ := h.at hj
  have i1 : (0 : Int) ≤ i := by omega
  have i2 : (i : Int) < len := by omega
  have j1 : (0 : Int) ≤ j := by omega
  have j2 : (j : Int) < len := by omega
  clear h
  cases hx : at' els i with
  | none =>
    rw [hx] at he
    obtain ⟨rfl, rfl⟩ := he
    clear hx hf
    go_enter Tryz.func105, Tryz.ntmps105
    go_wp2
    go_quiet (fail)
    go_wp2
    go_ret
    exact ⟨rfl, _, rfl⟩
  | some d =>
    obtain ⟨b0, A⟩ := d
    rw [hx] at he
    obtain ⟨rfl, hd, rfl⟩ := he
    have hres : lessE (some (b, A)) (at' els j) = (FloatKind.f64.format.order b c == some .gt) := by
      cases hy : at' els j with
      | none =>
        rw [hy] at hf
        obtain ⟨rfl, rfl⟩ := hf
        rw [hd.2]
        rfl
      | some e =>
        rw [hy] at hf
        obtain ⟨rfl, he, _⟩ := hf
        rw [ord_gt hd.1 he.1]
        rfl
    obtain ⟨g, hg⟩ : ∃ g : Bool, (FloatKind.f64.format.order b c == some .gt) = g := ⟨_, rfl⟩
    rw [hres, hg]
    clear hx hf hres
    have heq : ∀ (A : Value) (w : World), (binOp .eql 81 (.iface 50 A) .nilIface).run Tryz.prog w = .ok (.bool false) w := fun _ _ => by kernel_rfl
    go_enter Tryz.func105, Tryz.ntmps105
    go_wp2
    go_quiet (fail)
    go_wp2
    go_ret
    exact ⟨rfl, _, rfl⟩

end Go.Proofs.YtmeooadgdagiiaaGreat.K.D

namespace Go.Proofs.YtmeooadgdagiiaaGreat.K.D
open Go.RowKit Lox
set_option linter.unusedVariables false
variable {S : Nat}
attribute [local go_sem] run_store_flt run_store_fn undef

theorem elAt_one {PT : TypeId} {v : Value} {b : Nat} {x : El} (h : ElAtD S PT v b x) : v.oneCell' = true := by
  cases x with
  | none => rw [h.1]; rfl
  | some d => obtain ⟨_, _, rfl⟩ := h; rfl

set_option maxHeartbeats 4000000 in
theorem kswap_at (w : World) (kb hb len cap : Nat) (els : List El) (i j : Nat) (I J : Int) (hI : I = i) (hJ : J = j) (h : DKS S w kb hb len cap els) (hi : i < len) (hj : j < len) (hne : i ≠ j) (hl : len ≤ 1099511627776) :
    Calls Tryz.prog 108 #[.pointer (some ⟨kb, 0, none⟩), .int .i64 I, .int .i64 J] w fun e w' => e = .returned (.tuple #[]) ∧ DKS S w' kb hb len cap (swapE els i j) ∧ Mod (fun k => k = hb) w w' := by
  subst hI hJ
  have c0 := h.top.1
  obtain ⟨v, b, d0, d1, z0, z1, he⟩ := h.at hi
  obtain ⟨u, c, g0, g1, y0, y1, hf⟩ := h.at hj
  have i1 : (0 : Int) ≤ i := by omega
  have i2 : (i : Int) < len := by omega
  have j1 : (0 : Int) ≤ j := by omega
  have j2 : (j : Int) < len := by omega
  have n1 : i * 2 ≠ j * 2 := by omega
  have n2 : i * 2 ≠ j * 2 + 1 := by omega
  have n3 : i * 2 + 1 ≠ j * 2 := by omega
  have n4 : i * 2 + 1 ≠ j * 2 + 1 := by omega
  have HH := Lib.hid (And.intro h (And.intro he hf))
  have su : ∀ (w : World) (a : Addr) (m : Mode), (store a u m).run Tryz.prog w = stored Tryz.prog w a u m := fun w a m => run_store _ w a u m (elAt_one hf)
  have sv : ∀ (w : World) (a : Addr) (m : Mode), (store a v m).run Tryz.prog w = stored Tryz.prog w a v m := fun w a m => run_store _ w a v m (elAt_one he)
  clear h he hf hne
  go_enter Tryz.func108, Tryz.ntmps108
  go_wp2
  go_region
  all_goals
    have hK : DKS S (((((w.setCell ⟨hb, i * 2, none⟩ u).setCell ⟨hb, i * 2 + 1, none⟩ (.float .f64 c)).setCell ⟨hb, j * 2, none⟩ v).setCell ⟨hb, j * 2 + 1, none⟩ (.float .f64 b)).drew) kb hb len cap (swapE els i j) := ((HH.out.1.put hi HH.out.2.2).put hj HH.out.2.1).drew
    have hM := ((mod_put (mod_put (Mod.refl (fun k => k = hb) w) (a := i * 2) (b := i * 2 + 1) (x := u) (y := .float .f64 c)) (a := j * 2) (b := j * 2 + 1) (x := v) (y := .float .f64 b))).drew
    refine bodyPost_end (by simp [results, Tryz.results108, go_sem]) rfl ⟨rfl, hK, hM⟩
end Go.Proofs.YtmeooadgdagiiaaGreat.K.D
