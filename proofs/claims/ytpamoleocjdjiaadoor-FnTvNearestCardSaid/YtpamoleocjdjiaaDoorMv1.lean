/- Steps of a proof, one behind another: General lemmas on memory blocks and frames, used by the walks of this seat: nothing of the program in sight. Slices that are read: nil, empty or not, wherever they lie; and copies of them. Float numbers that are compared: what has an order with something is equal to itself. The build of a k-d tree as a plain function: Partition, the picks, the tree. The array of points that a k-d tree is built of: Len and Swap over a window of it. The array of points that a k-d tree is built of: Len and Less. Which function a method of the k-d tree's doors is. The walk of Partition over a window of the array of points. The walks of the k-d tree's list of points whose pivots are picked by numbers: Len, Index, Slice, Pivot. k-d trees as New and Insert make them, in memory. Finite float numbers as whole numbers, in their order. Conditions: as each theorem says. -/
import Derived.WalkKit
import Derived.WalkSpells
import Derived.WalkLawsBesides
import Derived.BigRegion
import Derived.BigQuiet
import Derived.Lib.Hide
import Derived.Deep.AppendLies
import Derived.Test.YtpamoleocjdjiaaDoorRows
import Derived.Deep.QuietTactic

namespace Lox
open Go Go.RowKit

/-- Block b holds just these cells, and may be written. -/
def Blk (w : World) (b : Nat) (T : TypeId) (xs : List Value) : Prop := w.heap[b]? = some (.cells xs.toArray T (0, 0))

/-- From w to w' only blocks of S, and new ones, may have turned. -/
structure Mod (S : Nat → Prop) (w w' : World) : Prop where
  os : w'.os = w.os
  tape : w'.tape = w.tape
  output : w'.output = w.output
  size : w.heap.size ≤ w'.heap.size
  block : ∀ k, k < w.heap.size → ¬ S k → w'.heap[k]? = w.heap[k]?

theorem lt_of_cell {w : World} {a : Addr} {v : Value} (h : w.cell? a = some v) : a.block < w.heap.size := by
  unfold World.cell? at h
  rcases Nat.lt_or_ge a.block w.heap.size with h1 | h1
  · exact h1
  · rw [Array.getElem?_eq_none h1] at h; cases h

section Blk
variable {w : World} {b : Nat} {T : TypeId} {xs : List Value}

theorem Blk.lt (h : Blk w b T xs) : b < w.heap.size := (Array.getElem?_eq_some_iff.1 h).1

theorem Blk.cell (h : Blk w b T xs) (i : Nat) : w.cell? ⟨b, i, none⟩ = xs[i]? := by
  unfold Blk at h
  simp [World.cell?, h]

theorem Blk.at {i : Nat} {v : Value} (h : Blk w b T xs) (hv : xs[i]? = some v) : w.cell? ⟨b, i, none⟩ = some v := by rw [h.cell, hv]

theorem Blk.frozen (h : Blk w b T xs) (i : Nat) : w.frozen? ⟨b, i, none⟩ = false := by
  unfold Blk at h
  simp [World.frozen?, h]

theorem Blk.shape (h : Blk w b T xs) : w.shape? b = some (T, xs.length) := by
  unfold Blk at h
  simp [World.shape?, h]

theorem Blk.set (h : Blk w b T xs) (i : Nat) (v : Value) : Blk (w.setCell ⟨b, i, none⟩ v) b T (xs.set i v) := by
  unfold Blk at *
  simp [World.setCell, Array.getElem?_modify, h]

theorem Blk.other (h : Blk w b T xs) {a : Addr} (v : Value) (hne : a.block ≠ b) : Blk (w.setCell a v) b T xs := by
  unfold Blk at *
  rw [Below.heap_setCell _ _ _ _ (Ne.symm hne)]; exact h

theorem Blk.alloc (h : Blk w b T xs) (o : Obj) : Blk (w.alloc o) b T xs := by
  have := h.lt
  unfold Blk at *
  rw [Below.heap_alloc _ _ _ this]; exact h

theorem Blk.new (w : World) (xs : List Value) (T : TypeId) : Blk (w.alloc (.cells xs.toArray T)) w.heap.size T xs := by
  unfold Blk World.alloc
  simp

theorem Blk.new' (w : World) (c : Array Value) (T : TypeId) : Blk (w.alloc (.cells c T)) w.heap.size T c.toList := by
  unfold Blk World.alloc
  simp

theorem Blk.drew (h : Blk w b T xs) : Blk w.drew b T xs := h

theorem Blk.mod {w' : World} {S : Nat → Prop} (h : Blk w b T xs) (hm : Mod S w w') (hs : ¬ S b) : Blk w' b T xs := by
  have := hm.block b h.lt hs
  unfold Blk at *
  rw [this, h]

theorem Blk.below {w' : World} {B : Nat} (h : Blk w b T xs) (hm : Below B w w') (hs : b < B) : Blk w' b T xs := by
  have := hm.block b hs
  unfold Blk at *
  rw [this, h]

theorem Blk.grown {w' : World} {row : Option Nat} (h : Blk w b T xs) (hm : w.grownBy w' row) (hs : some b ≠ row) : Blk w' b T xs := by
  have := hm.block b h.lt hs
  unfold Blk at *
  rw [this, h]
end Blk

section Mod
variable {S S' : Nat → Prop} {a b c w w' : World}

theorem Mod.refl (S : Nat → Prop) (w : World) : Mod S w w := ⟨rfl, rfl, rfl, Nat.le_refl _, fun _ _ _ => rfl⟩

theorem Mod.trans (h : Mod S a b) (k : Mod S b c) : Mod S a c :=
  ⟨k.os.trans h.os, k.tape.trans h.tape, k.output.trans h.output, Nat.le_trans h.size k.size,
    fun i hi hs => (k.block i (Nat.lt_of_lt_of_le hi h.size) hs).trans (h.block i hi hs)⟩

theorem Mod.trans' (h : Mod S a b) (k : Mod S' b c) (hs : ∀ i, i < a.heap.size → S' i → S i) : Mod S a c :=
  ⟨k.os.trans h.os, k.tape.trans h.tape, k.output.trans h.output, Nat.le_trans h.size k.size,
    fun i hi hn => (k.block i (Nat.lt_of_lt_of_le hi h.size) (fun h' => hn (hs i hi h'))).trans (h.block i hi hn)⟩

theorem Mod.mono (h : Mod S a b) (hs : ∀ i, i < a.heap.size → S i → S' i) : Mod S' a b :=
  ⟨h.os, h.tape, h.output, h.size, fun i hi hn => h.block i hi (fun h' => hn (hs i hi h'))⟩

theorem Mod.alloc (h : Mod S a w) (o : Obj) : Mod S a (w.alloc o) :=
  h.trans ⟨rfl, rfl, rfl, by simp, fun k hk _ => Below.heap_alloc _ _ _ hk⟩

theorem Mod.drew (h : Mod S a w) : Mod S a w.drew := ⟨h.os, h.tape, h.output, h.size, h.block⟩

theorem Mod.set (h : Mod S a w) {p : Addr} (hp : S p.block ∨ a.heap.size ≤ p.block) (v : Value) : Mod S a (w.setCell p v) := by
  refine ⟨h.os, h.tape, h.output, by simpa [World.setCell] using h.size, fun k hk hn => ?_⟩
  rw [Below.heap_setCell _ _ _ _ (by rintro rfl; rcases hp with hp | hp; exact hn hp; omega)]
  exact h.block k hk hn

theorem Mod.grown {row : Option Nat} (h : Mod S a w) (hg : w.grownBy w' row) (hr : ∀ k, row = some k → k < a.heap.size → S k) : Mod S a w' :=
  ⟨hg.os.trans h.os, hg.tape.trans h.tape, hg.output.trans h.output, Nat.le_trans h.size hg.size,
    fun k hk hn => (hg.block k (Nat.lt_of_lt_of_le hk h.size) (fun e => hn (hr k e.symm hk))).trans (h.block k hk hn)⟩

theorem Mod.toBelow (h : Mod (fun _ => False) w w') : Below w.heap.size w w' := ⟨h.os, h.tape, h.output, h.size, fun k hk => h.block k hk (fun h => h)⟩

theorem Mod.ofBelow (h : Below w.heap.size w w') : Mod (fun _ => False) w w' := ⟨h.os, h.tape, h.output, h.size, fun k hk _ => h.block k hk⟩

theorem Mod.cell (h : Mod S w w') {p : Addr} (hp : p.block < w.heap.size) (hs : ¬ S p.block) : w'.cell? p = w.cell? p :=
  World.cell?_of_block (w := w) (h.block p.block hp hs)

theorem Mod.frozen (h : Mod S w w') {p : Addr} (hp : p.block < w.heap.size) (hs : ¬ S p.block) : w'.frozen? p = w.frozen? p :=
  World.frozen?_of_block (w := w) (h.block p.block hp hs)
end Mod

/-- Numbers as cells. -/
def ints (xs : List Int) : List Value := xs.map (Value.int .i64)

theorem ints_at {xs : List Int} {i : Nat} {x : Int} (h : xs[i]? = some x) : (ints xs)[i]? = some (.int .i64 x) := by simp [ints, h]

theorem ints_set (xs : List Int) (i : Nat) (x : Int) : (ints xs).set i (.int .i64 x) = ints (xs.set i x) := by simp [ints, List.map_set]

end Lox

namespace Lox
open Go Go.RowKit

theorem addr_lit (b o n : Nat) : (⟨b, o, none⟩ : Addr).add n = ⟨b, o + n, none⟩ := Addr.add_lit b o n

/-- A slice value of n elements, of size cells each, reads as the cells xs. -/
def Sl (w : World) (A : Option Addr) (n size : Nat) (xs : List Value) : Prop :=
  xs.length = n * size ∧ (0 < n → ∃ b o, A = some ⟨b, o, none⟩ ∧ ∀ j v, xs[j]? = some v → w.cell? ⟨b, o + j, none⟩ = some v)

section Sl
variable {w w' : World} {A : Option Addr} {n size : Nat} {xs : List Value}

theorem Sl.keep (h : Sl w A n size xs) (hk : ∀ p : Addr, p.block < w.heap.size → w'.cell? p = w.cell? p) : Sl w' A n size xs :=
  ⟨h.1, fun hn => by
    obtain ⟨b, o, e, hc⟩ := h.2 hn
    exact ⟨b, o, e, fun j v hv => (hk _ (lt_of_cell (hc j v hv))).trans (hc j v hv)⟩⟩

theorem Sl.mod (h : Sl w A n size xs) (hm : Mod (fun _ => False) w w') : Sl w' A n size xs :=
  h.keep fun _ hp => hm.cell hp (fun h => h)

theorem Sl.alloc (h : Sl w A n size xs) (o : Obj) : Sl (w.alloc o) A n size xs := h.mod ((Mod.refl _ _).alloc o)
theorem Sl.drew (h : Sl w A n size xs) : Sl w.drew A n size xs := h

/-- The cells that are read lie below block B. -/
def Far (B : Nat) (A : Option Addr) (n : Nat) : Prop := 0 < n → ∀ b o, A = some ⟨b, o, none⟩ → b < B

theorem Sl.far (h : Sl w A n size xs) (hs : 0 < size) : Far w.heap.size A n := fun hn b o e => by
  obtain ⟨b', o', e', hc⟩ := h.2 hn
  rw [e] at e'
  cases e'
  have hl : 0 < xs.length := by rw [h.1]; exact Nat.mul_pos hn hs
  have := lt_of_cell (hc 0 _ (List.getElem?_eq_getElem hl))
  exact this

theorem Sl.below {B : Nat} (h : Sl w A n size xs) (hf : Far B A n) (hb : ∀ k, k < B → w'.heap[k]? = w.heap[k]?) : Sl w' A n size xs :=
  ⟨h.1, fun hn => by
    obtain ⟨b, o, e, hc⟩ := h.2 hn
    exact ⟨b, o, e, fun j v hv => (World.cell?_of_block (hb b (hf hn b o e))).trans (hc j v hv)⟩⟩

theorem Sl.nil (w : World) (size : Nat) : Sl w none 0 size [] := ⟨by simp, fun h => by omega⟩

/-- The cell of an element of one cell. -/
theorem Sl.at1 (h : Sl w A n 1 xs) {k : Nat} (hk : k < n) : ∃ b o v, A = some ⟨b, o, none⟩ ∧ xs[k]? = some v ∧ w.cell? ⟨b, o + k, none⟩ = some v := by
  obtain ⟨b, o, e, hc⟩ := h.2 (by omega)
  have hl : k < xs.length := by rw [h.1]; omega
  exact ⟨b, o, xs[k], e, List.getElem?_eq_getElem hl, hc k _ (List.getElem?_eq_getElem hl)⟩
end Sl

/-- Float numbers, by their bits, as cells. -/
def flts (xs : List Nat) : List Value := xs.map (Value.float .f64)

theorem flts_at {xs : List Nat} {i x : Nat} (h : xs[i]? = some x) : (flts xs)[i]? = some (.float .f64 x) := by simp [flts, h]
theorem flts_getD {xs : List Nat} {i : Nat} (h : i < xs.length) : (flts xs)[i]? = some (.float .f64 (xs.getD i 0)) := by simp [flts, h]
end Lox

namespace Lox
open Go Go.RowKit

theorem run_store_flt (P : Program) (w : World) (a : Addr) (m : Mode) (k : FloatKind) (x : Nat) : (store a (.float k x) m).run P w = stored P w a (.float k x) m := run_store P w a _ m rfl

theorem run_store_fn (P : Program) (w : World) (a : Addr) (m : Mode) (f : Fn) (b : Array Value) (c : Array Value) : (store a (.func f b c) m).run P w = stored P w a (.func f b c) m := run_store P w a _ m rfl

theorem datum_order_self (d : Ieee.Datum) : d.order d = if d.isNaN then none else some .eq := by
  cases d with
  | number s m i => simp [Ieee.Datum.order, Ieee.Datum.isNaN, compare, compareOfLessAndEq]
  | infinity s => simp [Ieee.Datum.order, Ieee.Datum.isNaN, compare, compareOfLessAndEq]
  | nan s t => simp [Ieee.Datum.order, Ieee.Datum.isNaN]

theorem datum_order_num (d e : Ieee.Datum) (h : d.order e ≠ none) : d.isNaN = false ∧ e.isNaN = false := by
  cases d <;> cases e <;> simp [Ieee.Datum.order, Ieee.Datum.isNaN] at h ⊢

/-- A float number, by its bits, that is a number (or infinite). -/
def Num (x : Nat) : Prop := (FloatKind.f64.decode x).isNaN = false

theorem Num.of_order {x y : Nat} {o : Ordering} (h : FloatKind.f64.format.order x y = some o) : Num x :=
  (datum_order_num (FloatKind.f64.decode x) (FloatKind.f64.decode y) (by
    show FloatKind.f64.format.order x y ≠ none
    rw [h]; simp)).1

theorem Num.self {x : Nat} (h : Num x) : FloatKind.f64.format.order x x = some .eq := by
  have := datum_order_self (FloatKind.f64.decode x)
  rw [h] at this
  exact this
end Lox
namespace Lox
open Go Go.RowKit

/-- A point: a slice of float numbers. -/
structure Pt where
  A : Option Addr
  n : Nat
  c : Nat
  xs : List Nat

instance : Inhabited Pt := ⟨⟨none, 0, 0, []⟩⟩

def Pt.v (p : Pt) : Value := .slice p.A p.n p.c
def Pt.Ok (w : World) (p : Pt) : Prop := Sl w p.A p.n 1 (flts p.xs) ∧ p.n ≤ 9223372036854775807

theorem Pt.Ok.len {w : World} {p : Pt} (h : p.Ok w) : p.xs.length = p.n := by have := h.1.1; simpa [flts] using this

theorem Pt.Ok.cell {w : World} {p : Pt} (h : p.Ok w) {k : Nat} (hk : k < p.n) : ∃ b o, p.A = some ⟨b, o, none⟩ ∧ w.cell? ⟨b, o + k, none⟩ = some (.float .f64 (p.xs.getD k 0)) := by
  obtain ⟨b, o, v, e1, e2, e3⟩ := h.1.at1 hk
  have hl := h.len
  rw [flts_getD (by omega)] at e2
  cases e2
  exact ⟨b, o, e1, e3⟩
end Lox

namespace Lox.KB

variable {α : Type}

/-- Two places of a list, changed one for the other. -/
def swp (l : List α) (i j : Nat) : List α :=
  match l[i]?, l[j]? with
  | some a, some b => (l.set i b).set j a
  | _, _ => l

theorem swp_len (l : List α) (i j : Nat) : (swp l i j).length = l.length := by
  unfold swp; split <;> simp

theorem swp_at (l : List α) (i j : Nat) (hi : i < l.length) (hj : j < l.length) (k : Nat) :
    (swp l i j)[k]? = if k = j then l[i]? else if k = i then l[j]? else l[k]? := by
  unfold swp
  rw [List.getElem?_eq_getElem hi, List.getElem?_eq_getElem hj]
  simp only [List.getElem?_set, List.length_set]
  by_cases h1 : k = j
  · subst h1; simp [hj]
  · by_cases h2 : k = i
    · subst h2; simp [h1, hi, Ne.symm h1]
    · simp [Ne.symm h1, Ne.symm h2, h1, h2]

theorem swp_same (l : List α) (i : Nat) : swp l i i = l := by
  apply List.ext_getElem?
  intro k
  by_cases hi : i < l.length
  · rw [swp_at l i i hi hi]; split
    · next h => rw [h]
    · rfl
  · unfold swp
    rw [List.getElem?_eq_none (l := l) (i := i) (by omega)]

theorem swp_perm (l : List α) (i j : Nat) : (swp l i j).Perm l := by
  by_cases hi : i < l.length
  · by_cases hj : j < l.length
    · have : swp l i j = (l.set i l[j]).set j l[i] := by
        unfold swp; rw [List.getElem?_eq_getElem hi, List.getElem?_eq_getElem hj]
      rw [this]
      exact List.set_set_perm hi hj
    · unfold swp
      rw [List.getElem?_eq_none (l := l) (i := j) (by omega)]
      split
      · next h => cases h
      · exact List.Perm.refl _
  · unfold swp
    rw [List.getElem?_eq_none (l := l) (i := i) (by omega)]

theorem swp_mid (A l B : List α) (i j : Nat) (hi : i < l.length) (hj : j < l.length) : swp (A ++ (l ++ B)) (A.length + i) (A.length + j) = A ++ (swp l i j ++ B) := by
  have get : ∀ k, k < l.length → (A ++ (l ++ B))[A.length + k]? = l[k]? := by
    intro k hk
    rw [List.getElem?_append_right (by omega), List.getElem?_append_left (by omega)]
    congr 1
    omega
  unfold swp
  rw [get i hi, get j hj, List.getElem?_eq_getElem hi, List.getElem?_eq_getElem hj]
  simp only
  rw [List.set_append_right _ _ (by omega), List.set_append_right _ _ (by omega), List.set_append_left _ _ (by omega), List.set_append_left _ _ (by simp; omega)]
  simp

/-- Partition's loop: n rounds to go, at i, with the index that it holds. le x y: x's number is at most y's. -/
def partLoop (le : α → α → Bool) (last : Nat) : Nat → List α → Nat → Nat → List α × Nat
  | 0, l, _, idx => (l, idx)
  | n + 1, l, i, idx =>
    match l[i]?, l[last]? with
    | some x, some p => if le x p then partLoop le last n (swp l idx i) (i + 1) (idx + 1) else partLoop le last n l (i + 1) idx
    | _, _ => (l, idx)

/-- Partition: the list behind it, and the place that it returns. -/
def part (le : α → α → Bool) (l : List α) (k : Nat) : List α × Nat :=
  let r := partLoop le (l.length - 1) (l.length - 1) (swp l k (l.length - 1)) 0 0
  (swp r.1 (l.length - 1) r.2, r.2)

/-- What the loop keeps. -/
structure PI (le : α → α → Bool) (last : Nat) (p : α) (l0 l : List α) (i idx : Nat) : Prop where
  len : l.length = l0.length
  perm : l.Perm l0
  piv : l[last]? = some p
  ii : idx ≤ i
  il : i ≤ last
  low : ∀ j x, j < idx → l[j]? = some x → le x p = true
  high : ∀ j x, idx ≤ j → j < i → l[j]? = some x → le x p = false

theorem partLoop_ok (le : α → α → Bool) (last : Nat) (p : α) (l0 : List α) (hl : last < l0.length) :
    ∀ (n : Nat) (l : List α) (i idx : Nat), i + n = last → PI le last p l0 l i idx →
      PI le last p l0 (partLoop le last n l i idx).1 last (partLoop le last n l i idx).2 := by
  intro n
  induction n with
  | zero => intro l i idx hn h; have : i = last := by omega
            subst this; exact h
  | succ n ih =>
    intro l i idx hn h
    have hi : i < l.length := by rw [h.len]; omega
    have hx : idx < l.length := by have := h.ii; omega
    have hla : last < l.length := by rw [h.len]; omega
    have hle := h.ii
    unfold partLoop
    rw [List.getElem?_eq_getElem hi, h.piv]
    by_cases hc : le l[i] p = true
    · simp only [hc, if_true]
      refine ih _ _ _ (by omega) ⟨by rw [swp_len, h.len], (swp_perm _ _ _).trans h.perm, ?_, by omega, by omega, ?_, ?_⟩
      · rw [swp_at _ _ _ hx hi, if_neg (by omega), if_neg (by omega)]; exact h.piv
      · intro j x hj e
        rw [swp_at _ _ _ hx hi] at e
        by_cases h1 : j = i
        · rw [if_pos h1] at e
          have hxi : idx = i := by omega
          rw [hxi, List.getElem?_eq_getElem hi] at e
          cases e; exact hc
        · rw [if_neg h1] at e
          by_cases h2 : j = idx
          · rw [if_pos h2, List.getElem?_eq_getElem hi] at e; cases e; exact hc
          · rw [if_neg h2] at e; exact h.low j x (by omega) e
      · intro j x h1 h2 e
        rw [swp_at _ _ _ hx hi] at e
        by_cases h3 : j = i
        · rw [if_pos h3] at e; exact h.high idx x (by omega) (by omega) e
        · rw [if_neg h3, if_neg (by omega)] at e; exact h.high j x (by omega) (by omega) e
    · simp only [hc, if_false, Bool.false_eq_true]
      refine ih _ _ _ (by omega) ⟨h.len, h.perm, h.piv, by omega, by omega, h.low, ?_⟩
      intro j x h1 h2 e
      by_cases h3 : j = i
      · rw [h3, List.getElem?_eq_getElem hi] at e; cases e; simpa using hc
      · exact h.high j x h1 (by omega) e

theorem part_len (le : α → α → Bool) (l : List α) (k : Nat) (hk : k < l.length) (p : α) (hp : l[k]? = some p) :
    PI le (l.length - 1) p l (partLoop le (l.length - 1) (l.length - 1) (swp l k (l.length - 1)) 0 0).1 (l.length - 1)
      (partLoop le (l.length - 1) (l.length - 1) (swp l k (l.length - 1)) 0 0).2 := by
  refine partLoop_ok le _ p l (by omega) _ _ 0 0 (by omega) ⟨swp_len _ _ _, swp_perm _ _ _, ?_, by omega, by omega, by intro j _ h; omega, by intro j _ _ h; omega⟩
  rw [swp_at _ _ _ hk (by omega), if_pos rfl, hp]

/-- What Partition does: the place is one of the list's, the picked one stands there, those before are at most it, those behind are not. -/
theorem part_ok (le : α → α → Bool) (l : List α) (k : Nat) (hk : k < l.length) (p : α) (hp : l[k]? = some p) :
    (part le l k).1.length = l.length ∧ (part le l k).1.Perm l ∧ (part le l k).2 < l.length ∧ (part le l k).1[(part le l k).2]? = some p ∧
      (∀ j x, j < (part le l k).2 → (part le l k).1[j]? = some x → le x p = true) ∧
      (∀ j x, (part le l k).2 < j → (part le l k).1[j]? = some x → le x p = false) := by
  have h := part_len le l k hk p hp
  unfold part
  generalize (partLoop le (l.length - 1) (l.length - 1) (swp l k (l.length - 1)) 0 0) = r at h
  obtain ⟨m, idx⟩ := r
  simp only at h ⊢
  have hlen := h.len
  have hle := h.ii
  have hx : idx < m.length := by omega
  have hla : l.length - 1 < m.length := by omega
  refine ⟨by rw [swp_len, h.len], (swp_perm _ _ _).trans h.perm, by omega, ?_, ?_, ?_⟩
  · rw [swp_at _ _ _ hla hx, if_pos rfl]; exact h.piv
  · intro j x hj e
    rw [swp_at _ _ _ hla hx, if_neg (by omega), if_neg (by omega)] at e
    exact h.low j x hj e
  · intro j x hj e
    have hj2 : j < m.length := by
      have := (List.getElem?_eq_some_iff.1 e).1; rw [swp_len] at this; exact this
    rw [swp_at _ _ _ hla hx, if_neg (by omega)] at e
    by_cases h1 : j = l.length - 1
    · rw [if_pos h1] at e; exact h.high idx x (by omega) (by omega) e
    · rw [if_neg h1] at e; exact h.high j x (by omega) (by omega) e

/-- A tree of points. -/
inductive T (α : Type) where
  | nil
  | node (p : α) (plane : Nat) (l r : T α)

def T.all : T α → List α
  | .nil => []
  | .node p _ l r => l.all ++ p :: r.all

/-- Which one is picked of n, and what picks are left. -/
def pick (n : Nat) : List Nat → Nat × List Nat
  | [] => (n / 2, [])
  | k :: ks => (k % n, ks)

/-- build: dims coordinates, at: which number of a point. -/
def build (le : Nat → α → α → Bool) (dims : Nat) : Nat → List α → List Nat → Nat → T α × List Nat
  | 0, _, ks, _ => (.nil, ks)
  | n + 1, l, ks, d =>
    if l.length = 0 then (.nil, ks) else
    let k := pick l.length ks
    let r := part (le d) l k.1
    match r.1[r.2]? with
    | none => (.nil, ks)
    | some p =>
      let a := build le dims n (r.1.take r.2) k.2 ((d + 1) % dims)
      let b := build le dims n (r.1.drop (r.2 + 1)) a.2 ((d + 1) % dims)
      (.node p d a.1 b.1, b.2)

theorem pick_lt (n : Nat) (hn : 0 < n) (ks : List Nat) : (pick n ks).1 < n := by
  unfold pick
  split
  · exact Nat.div_lt_self hn (by decide)
  · exact Nat.mod_lt _ hn

/-- All the points of a tree. -/
def T.Each (P : α → Nat → Prop) : T α → Prop
  | .nil => True
  | .node p d l r => P p d ∧ l.Each P ∧ r.Each P

/-- On a node's left no number on its plane is above its own, on its right all are. -/
def T.Ord (le : Nat → α → α → Bool) : T α → Prop
  | .nil => True
  | .node p d l r => (∀ x ∈ l.all, le d x p = true) ∧ (∀ x ∈ r.all, le d x p = false) ∧ l.Ord le ∧ r.Ord le

theorem split_at {l : List α} {i : Nat} {p : α} (h : l[i]? = some p) : l.take i ++ p :: l.drop (i + 1) = l := by
  obtain ⟨hi, e⟩ := List.getElem?_eq_some_iff.1 h
  rw [← e, List.getElem_cons_drop, List.take_append_drop]

theorem build_node (le : Nat → α → α → Bool) (dims n : Nat) (l : List α) (ks : List Nat) (d : Nat) (hl : 0 < l.length) (p : α) (hp : l[(pick l.length ks).1]? = some p) :
    ∃ (m : List α) (i : Nat), part (le d) l (pick l.length ks).1 = (m, i) ∧ m.length = l.length ∧ m.Perm l ∧ i < l.length ∧ m[i]? = some p ∧
      (∀ x ∈ m.take i, le d x p = true) ∧ (∀ x ∈ m.drop (i + 1), le d x p = false) ∧
      build le dims (n + 1) l ks d = (.node p d (build le dims n (m.take i) (pick l.length ks).2 ((d + 1) % dims)).1
        (build le dims n (m.drop (i + 1)) (build le dims n (m.take i) (pick l.length ks).2 ((d + 1) % dims)).2 ((d + 1) % dims)).1,
        (build le dims n (m.drop (i + 1)) (build le dims n (m.take i) (pick l.length ks).2 ((d + 1) % dims)).2 ((d + 1) % dims)).2) := by
  obtain ⟨h1, h2, h3, h4, h5, h6⟩ := part_ok (le d) l (pick l.length ks).1 (pick_lt _ hl _) p hp
  generalize hr : part (le d) l (pick l.length ks).1 = r at h1 h2 h3 h4 h5 h6
  obtain ⟨m, i⟩ := r
  simp only at h1 h2 h3 h4 h5 h6
  refine ⟨m, i, rfl, h1, h2, h3, h4, ?_, ?_, ?_⟩
  · intro x hx
    obtain ⟨j, hj, e⟩ := List.mem_iff_getElem.1 hx
    rw [List.length_take] at hj
    refine h5 j x (by omega) ?_
    rw [List.getElem_take] at e
    rw [← e]; exact List.getElem?_eq_getElem _
  · intro x hx
    obtain ⟨j, hj, e⟩ := List.mem_iff_getElem.1 hx
    rw [List.length_drop] at hj
    refine h6 (i + 1 + j) x (by omega) ?_
    rw [List.getElem_drop] at e
    rw [← e]; exact List.getElem?_eq_getElem _
  · conv => lhs; unfold build
    rw [if_neg (by omega)]
    simp only [hr, h4]

theorem build_all (le : Nat → α → α → Bool) (dims : Nat) (hd : 0 < dims) : ∀ (n : Nat) (l : List α) (ks : List Nat) (d : Nat), l.length ≤ n → d < dims →
    (build le dims n l ks d).1.all.Perm l ∧ (build le dims n l ks d).1.Ord le ∧ (build le dims n l ks d).1.Each (fun _ d => d < dims) := by
  intro n
  induction n with
  | zero => intro l ks d hl hdd
            have : l = [] := List.length_eq_zero_iff.1 (by omega)
            subst this; unfold build; exact ⟨List.Perm.refl _, trivial, trivial⟩
  | succ n ih =>
    intro l ks d hl hdd
    by_cases h0 : l.length = 0
    · have : l = [] := List.length_eq_zero_iff.1 h0
      subst this; unfold build; rw [if_pos (by simp)]; exact ⟨List.Perm.refl _, trivial, trivial⟩
    · have hk := pick_lt l.length (by omega) ks
      obtain ⟨m, i, hp, e1, e2, e3, e4, e5, e6, e7⟩ := build_node le dims n l ks d (by omega) _ (List.getElem?_eq_getElem hk)
      rw [e7]
      have hn := Nat.mod_lt (d + 1) hd
      obtain ⟨a1, a2, a3⟩ := ih (m.take i) (pick l.length ks).2 ((d + 1) % dims) (by rw [List.length_take]; omega) hn
      obtain ⟨b1, b2, b3⟩ := ih (m.drop (i + 1)) (build le dims n (m.take i) (pick l.length ks).2 ((d + 1) % dims)).2 ((d + 1) % dims) (by rw [List.length_drop]; omega) hn
      refine ⟨?_, ⟨fun x hx => e5 x (a1.mem_iff.1 hx), fun x hx => e6 x (b1.mem_iff.1 hx), a2, b2⟩, hdd, a3, b3⟩
      simp only [T.all]
      have h := (a1.append (b1.cons l[(pick l.length ks).1]))
      rw [split_at e4] at h
      exact h.trans e2

/-- insert. -/
def ins (le : Nat → α → α → Bool) (dims : Nat) (p : α) : Nat → T α → T α
  | d, .nil => .node p d .nil .nil
  | _, .node q pl l r => if le pl p q then .node q pl (ins le dims p ((pl + 1) % dims) l) r else .node q pl l (ins le dims p ((pl + 1) % dims) r)

def T.rootIs (p : α) : T α → Prop
  | .nil => False
  | .node q _ _ _ => q = p

theorem ins_root (le : Nat → α → α → Bool) (dims : Nat) (p q : α) (d : Nat) (t : T α) (h : t.rootIs q) : (ins le dims p d t).rootIs q := by
  cases t with
  | nil => exact h.elim
  | node a pl l r => unfold ins; split <;> exact h

/-- All inserted. -/
def inss (le : Nat → α → α → Bool) (dims : Nat) (t : T α) (ps : List α) : T α := ps.foldl (fun t p => ins le dims p 0 t) t

theorem inss_root (le : Nat → α → α → Bool) (dims : Nat) (q : α) : ∀ (ps : List α) (t : T α), t.rootIs q → (inss le dims t ps).rootIs q := by
  intro ps
  induction ps with
  | nil => intro t h; exact h
  | cons p ps ih => intro t h; exact ih _ (ins_root le dims p q 0 t h)

theorem build_root (le : Nat → α → α → Bool) (dims n : Nat) (l : List α) (ks : List Nat) (hl : 0 < l.length) (p : α) (hp : l[(pick l.length ks).1]? = some p) : (build le dims (n + 1) l ks 0).1.rootIs p := by
  obtain ⟨m, i, _, _, _, _, _, _, _, e7⟩ := build_node le dims n l ks 0 hl p hp
  rw [e7]; rfl

end Lox.KB

namespace Go.Proofs.YtpamoleocjdjiaaDoor
open Go.RowKit Lox
set_option linter.unusedVariables false
attribute [local go_sem] run_store_flt run_store_fn undef

/-- A point as it lies in the array: its slice and the numbers' bits. -/
structure TP where
  A : Option Addr
  c : Nat
  xs : List Nat

def TP.v (p : TP) : Value := .slice p.A p.xs.length p.c

theorem swp_set {α : Type} {l : List α} {i j : Nat} {a b : α} (hi : l[i]? = some a) (hj : l[j]? = some b) : KB.swp l i j = (l.set i b).set j a := by
  unfold KB.swp
  rw [hi, hj]

end Go.Proofs.YtpamoleocjdjiaaDoor

namespace Go.Proofs.YtpamoleocjdjiaaDoor
open Go.RowKit Lox
set_option linter.unusedVariables false
attribute [local go_sem] run_store_flt run_store_fn

/-- The bits of a point's number. -/
def TP.n (p : TP) (d : Nat) : Nat := (p.xs[d]?).getD 0

/-- x's number on plane d is not above p's, by bits: the program's '!Less(p, x)'. -/
def leB (d : Nat) (x p : TP) : Bool := !(FloatKind.f64.format.order (p.n d) (x.n d) == some .lt)

/-- A point that can be read. -/
def TP.Ok (w : World) (dims : Nat) (p : TP) : Prop := p.xs.length = dims ∧ Sl w p.A p.xs.length 1 (flts p.xs)

end Go.Proofs.YtpamoleocjdjiaaDoor

namespace Go.Proofs.YtpamoleocjdjiaaDoor
open Go.RowKit Lox
set_option linter.unusedVariables false

/-- A window of the array, with its plane. -/
abbrev planeV (d : Int) (S : Value) : Value := .agg #[.int .i64 d, S]

end Go.Proofs.YtpamoleocjdjiaaDoor

namespace Go.Proofs.YtpamoleocjdjiaaDoor
open Go.RowKit Lox
set_option linter.unusedVariables false
attribute [local go_sem] run_store_flt run_store_fn

/-- A point that can be read and does not lie in the array's own block. -/
def TP.Okp (w : World) (dims pb : Nat) (p : TP) : Prop := p.Ok w dims ∧ ∀ b o, p.A = some ⟨b, o, none⟩ → b ≠ pb

theorem TP.Okp.mod {w w' : World} {dims pb : Nat} {S : Nat → Prop} {p : TP} (h : p.Okp w dims pb) (hm : Mod S w w') (hS : ∀ b o, p.A = some ⟨b, o, none⟩ → ¬ S b) : p.Okp w' dims pb := by
  refine ⟨⟨h.1.1, h.1.2.1, fun h0 => ?_⟩, h.2⟩
  obtain ⟨b, o, e, hc⟩ := h.1.2.2 h0
  exact ⟨b, o, e, fun j v hv => (hm.cell (lt_of_cell (hc j v hv)) (hS b o e)).trans (hc j v hv)⟩

end Go.Proofs.YtpamoleocjdjiaaDoor

namespace Go.Proofs.YtpamoleocjdjiaaDoor
open Go.RowKit Lox
set_option linter.unusedVariables false
attribute [local go_sem] run_store_flt run_store_fn

/-- A list of points with picks. -/
abbrev picksV (S : Value) (lc : Nat) : Value := .agg #[S, .pointer (some ⟨lc, 0, none⟩)]

/-- The picks' variable: what picks are left. -/
def PK (w : World) (lc pb : Nat) (ks : List Nat) : Prop :=
  ∃ (A : Option Addr) (c : Nat), Blk w lc 31 [.slice A ks.length c] ∧ Sl w A ks.length 1 (ints (ks.map Int.ofNat)) ∧ ks.length ≤ c ∧ c ≤ 9223372036854775807 ∧ (∀ k ∈ ks, k ≤ 9223372036854775807) ∧
    (0 < ks.length → ∀ b o, A = some ⟨b, o, none⟩ → b ≠ pb ∧ b ≠ lc)

theorem PK.mod {w w' : World} {lc pb : Nat} {ks : List Nat} {S : Nat → Prop} (h : PK w lc pb ks) (hm : Mod S w w') (hS : ∀ k, S k → k = pb) (hne : lc ≠ pb) : PK w' lc pb ks := by
  obtain ⟨A, c, hb, hs, h1, h2, h3, h4⟩ := h
  refine ⟨A, c, hb.mod hm (fun h => hne (hS _ h)), ⟨hs.1, fun h0 => ?_⟩, h1, h2, h3, h4⟩
  obtain ⟨b, o, e, hc⟩ := hs.2 h0
  exact ⟨b, o, e, fun j v hv => (hm.cell (lt_of_cell (hc j v hv)) (fun h => (h4 h0 b o e).1 (hS _ h))).trans (hc j v hv)⟩

theorem pick_mod (x n : Nat) (h0 : 0 < n) (hn : n ≤ 1099511627776) : (wrap64 ((x : Int) % (n : Int) + (n : Int))).tmod (n : Int) = ((x % n : Nat) : Int) := by
  have h1 : x % n < n := Nat.mod_lt _ h0
  have e1 : (x : Int) % (n : Int) = ((x % n : Nat) : Int) := by simp
  rw [e1]
  have e2 : wrap64 (((x % n : Nat) : Int) + (n : Int)) = ((x % n + n : Nat) : Int) := by unfold wrap64; omega
  rw [e2, ← Int.ofNat_tmod]
  simp

theorem pk_next {w w' : World} {lc pb x b o pc : Nat} {ks : List Nat} {A' : Option Addr} (hs : Sl w (some ⟨b, o, none⟩) (x :: ks).length 1 (ints ((x :: ks).map Int.ofNat))) (hW : Blk w' lc 31 [.slice A' ks.length (pc - 1)])
    (hm : Mod (fun k => k = pb ∨ k = lc) w w') (hA : 0 < ks.length → A' = some ⟨b, o + 1, none⟩) (h1 : ks.length + 1 ≤ pc) (h2 : pc ≤ 9223372036854775807) (h3 : ∀ k ∈ x :: ks, k ≤ 9223372036854775807)
    (h4 : ∀ b' o', some (⟨b, o, none⟩ : Addr) = some ⟨b', o', none⟩ → b' ≠ pb ∧ b' ≠ lc) : PK w' lc pb ks := by
  refine ⟨A', pc - 1, hW, ⟨by simp [ints], fun h0 => ?_⟩, by omega, by omega, fun k hk => h3 k (by simp [hk]), fun h0 b' o' e => ?_⟩
  · obtain ⟨b1, o1, e, hc⟩ := hs.2 (by simp)
    cases e
    obtain ⟨g1, g2⟩ := h4 b o rfl
    refine ⟨b, o + 1, hA h0, fun j v hv => ?_⟩
    have := hc (j + 1) v (by simpa [ints] using hv)
    rw [show o + 1 + j = o + (j + 1) by omega]
    exact (hm.cell (lt_of_cell this) (by rintro (h | h); exact g1 h; exact g2 h)).trans this
  · rw [hA h0] at e
    cases e
    exact h4 b o rfl

end Go.Proofs.YtpamoleocjdjiaaDoor

namespace Go.Proofs.YtpamoleocjdjiaaDoor
open Go.RowKit Lox
set_option linter.unusedVariables false

/-- A box of a node: its block, its least and its greatest point. -/
structure BX where
  g : Nat
  mn : TP
  mx : TP

/-- A tree as it lies in memory: of each node its block, its point, its plane, its box. -/
inductive MT where
  | nil
  | node (g : Nat) (p : TP) (d : Nat) (bx : Option BX) (l r : MT)

def MT.T : MT → KB.T TP
  | .nil => .nil
  | .node _ p d _ l r => .node p d l.T r.T

/-- The nodes' blocks. -/
def MT.gs : MT → List Nat
  | .nil => []
  | .node g _ _ _ l r => g :: (l.gs ++ r.gs)

/-- No node has a box. -/
def MT.bare : MT → Prop
  | .nil => True
  | .node _ _ _ bx l r => bx = none ∧ l.bare ∧ r.bare

def boxV : Option BX → Value
  | none => .pointer none
  | some x => .pointer (some ⟨x.g, 0, none⟩)

/-- A block in which no float number stands. -/
def NoFlt (w : World) (k : Nat) : Prop := ∀ o x, w.cell? ⟨k, o, none⟩ ≠ some (.float .f64 x)

/-- A point of a coordinate at least is as it was where only blocks without numbers have turned. -/
theorem TP.Ok.noFlt {w w' : World} {dims : Nat} {S : Nat → Prop} {p : TP} (h : p.Ok w dims) (hm : Mod S w w') (hS : ∀ k, k < w.heap.size → S k → NoFlt w k) : p.Ok w' dims := by
  refine ⟨h.1, h.2.1, fun h0 => ?_⟩
  obtain ⟨b, o, e, hc⟩ := h.2.2 h0
  refine ⟨b, o, e, fun j v hv => ?_⟩
  have hcj := hc j v hv
  refine (hm.cell (lt_of_cell hcj) (fun hs => ?_)).trans hcj
  have hv' : ∃ x, v = .float .f64 x := by
    have hm' := List.mem_of_getElem? hv
    obtain ⟨x, _, rfl⟩ := List.mem_map.1 hm'
    exact ⟨x, rfl⟩
  obtain ⟨x, rfl⟩ := hv'
  exact hS b (lt_of_cell hcj) hs (o + j) x hcj

/-- The points of a tree. -/
def MT.pts : MT → List TP
  | .nil => []
  | .node _ p _ _ l r => l.pts ++ p :: r.pts

theorem MT.pts_all : ∀ t : MT, t.pts = t.T.all := by
  intro t
  induction t with
  | nil => rfl
  | node g p d bx l r ihl ihr => simp only [MT.pts, MT.T, KB.T.all, ihl, ihr]
end Go.Proofs.YtpamoleocjdjiaaDoor

namespace Lox
open Go Go.RowKit
set_option linter.unusedVariables false

/-- A finite float number, by its bits. -/
def Fin (x : Nat) : Prop := ∃ s m i, FloatKind.f64.decode x = .number s m i

/-- Its value, as a multiple of the least one. -/
def fk (x : Nat) : Int := match FloatKind.f64.decode x with
  | .number s m i => Ieee.signed s m (i + 1074).toNat
  | _ => 0

theorem read_place {x : Nat} {s : Bool} {m : Nat} {i : Int} (h : FloatKind.f64.decode x = .number s m i) : -1074 ≤ i := by
  unfold FloatKind.decode Ieee.Format.read at h
  have e : FloatKind.f64.format.leastPlace = -1074 := rfl
  simp only [e] at h
  split at h
  · cases h; omega
  · split at h
    · cases h; omega
    · split at h <;> cases h

theorem signed_shift (s : Bool) (m a b : Nat) : Ieee.signed s m (a + b) = Ieee.signed s m a * (2 ^ b : Nat) := by
  unfold Ieee.signed
  have : m <<< (a + b) = (m <<< a) * 2 ^ b := by
    rw [Nat.shiftLeft_eq, Nat.shiftLeft_eq, Nat.pow_add, Nat.mul_assoc]
  cases s
  · simp [this]
  · simp [this, Int.neg_mul]

theorem compare_mul (a b : Int) (k : Nat) (hk : 0 < k) : compare (a * (k : Int)) (b * (k : Int)) = compare a b := by
  have hk' : (0 : Int) < k := by omega
  simp only [compare, compareOfLessAndEq]
  have h1 : (a * (k : Int) < b * (k : Int)) ↔ a < b := ⟨fun h => Int.lt_of_mul_lt_mul_right h (by omega), fun h => Int.mul_lt_mul_of_pos_right h hk'⟩
  have h2 : (a * (k : Int) = b * (k : Int)) ↔ a = b := ⟨fun h => Int.eq_of_mul_eq_mul_right (by omega) h, fun h => by rw [h]⟩
  simp only [h1, h2]

/-- Two finite numbers stand as their values do. -/
theorem order_fk {x y : Nat} (hx : Fin x) (hy : Fin y) : FloatKind.f64.format.order x y = some (compare (fk x) (fk y)) := by
  obtain ⟨s, m, i, ex⟩ := hx
  obtain ⟨t, n, j, ey⟩ := hy
  have hi := read_place ex
  have hj := read_place ey
  have ex' : FloatKind.f64.format.read x = .number s m i := ex
  have ey' : FloatKind.f64.format.read y = .number t n j := ey
  unfold Ieee.Format.order fk
  rw [ex, ey, ex', ey']
  simp only [Ieee.Datum.order]
  have e1 : (i + 1074).toNat = (i - min i j).toNat + (min i j + 1074).toNat := by omega
  have e2 : (j + 1074).toNat = (j - min i j).toNat + (min i j + 1074).toNat := by omega
  rw [e1, e2, signed_shift, signed_shift, compare_mul _ _ _ (Nat.two_pow_pos _)]

theorem ord_lt {x y : Nat} (hx : Fin x) (hy : Fin y) : (FloatKind.f64.format.order x y == some .lt) = decide (fk x < fk y) := by
  rw [order_fk hx hy]
  simp only [compare, compareOfLessAndEq]
  by_cases h : fk x < fk y
  · simp [h]
  · by_cases h2 : fk x = fk y <;> simp [h, h2]

theorem ord_gt {x y : Nat} (hx : Fin x) (hy : Fin y) : (FloatKind.f64.format.order x y == some .gt) = decide (fk y < fk x) := by
  rw [order_fk hx hy]
  simp only [compare, compareOfLessAndEq]
  by_cases h : fk x < fk y
  · simp [h]; omega
  · by_cases h2 : fk x = fk y
    · simp [h2]
    · simp [h, h2]; omega

theorem ord_eq {x y : Nat} (hx : Fin x) (hy : Fin y) : (FloatKind.f64.format.order x y == some .eq) = decide (fk x = fk y) := by
  rw [order_fk hx hy]
  simp only [compare, compareOfLessAndEq]
  by_cases h : fk x < fk y
  · simp [h]; omega
  · by_cases h2 : fk x = fk y <;> simp [h, h2]

theorem ord_le {x y : Nat} (hx : Fin x) (hy : Fin y) : (FloatKind.f64.format.order x y == some .lt || FloatKind.f64.format.order x y == some .eq) = decide (fk x ≤ fk y) := by
  rw [ord_lt hx hy, ord_eq hx hy]
  by_cases h : fk x ≤ fk y
  · simp [h]; omega
  · simp [h]; omega

theorem ord_ge {x y : Nat} (hx : Fin x) (hy : Fin y) : (FloatKind.f64.format.order x y == some .gt || FloatKind.f64.format.order x y == some .eq) = decide (fk y ≤ fk x) := by
  rw [ord_gt hx hy, ord_eq hx hy]
  by_cases h : fk y ≤ fk x
  · simp [h]; omega
  · simp [h]; omega

/-- What stands between two finite numbers is finite. -/
theorem fin_between {x lo hi : Nat} (hlo : Fin lo) (hhi : Fin hi) (h1 : (FloatKind.f64.format.order x lo == some .gt || FloatKind.f64.format.order x lo == some .eq) = true) (h2 : (FloatKind.f64.format.order x hi == some .lt || FloatKind.f64.format.order x hi == some .eq) = true) : Fin x := by
  obtain ⟨s, m, i, el⟩ := hlo
  obtain ⟨t, n, j, eh⟩ := hhi
  have el' : FloatKind.f64.format.read lo = .number s m i := el
  have eh' : FloatKind.f64.format.read hi = .number t n j := eh
  unfold Ieee.Format.order at h1 h2
  rw [el'] at h1
  rw [eh'] at h2
  cases hx : FloatKind.f64.decode x with
  | number s' m' i' => exact ⟨s', m', i', hx⟩
  | infinity s' =>
    have hx' : FloatKind.f64.format.read x = .infinity s' := hx
    rw [hx'] at h1 h2
    cases s' <;> simp [Ieee.Datum.order] at h1 h2
  | nan s' t' =>
    have hx' : FloatKind.f64.format.read x = .nan s' t' := hx
    rw [hx'] at h1
    simp [Ieee.Datum.order] at h1

theorem fin_decide {x : Nat} {s : Bool} {m : Nat} {i : Int} (h : FloatKind.f64.decode x = .number s m i) : Fin x := ⟨s, m, i, h⟩
end Lox
