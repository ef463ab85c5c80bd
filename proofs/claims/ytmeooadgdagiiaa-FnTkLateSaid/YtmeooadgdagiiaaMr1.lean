/- Steps of a proof, one behind another: General lemmas on memory blocks and frames, used by the walks of this seat: nothing of the program in sight. Slices that are read: nil, empty or not, wherever they lie; and copies of them. Float numbers that are compared: what has an order with something is equal to itself. The walks of Trunc, Grid, SamePoint, floats. The walks of the copy of a point, and of the looks at lengths. Conditions: a point of at most 2^40 numbers. The walks of the looks at lengths of a k-d tree's nodes. The walks of the reference's walk through a tree. The walk in order through a tree that is written down as two lists of numbers: what it is, in plain Lean. The shape of a tree that is written down as two lists of numbers, and that the reference's walk says yes to it. Slices of rows of numbers, each row in a block of its own. The memory of the reference's walk: its variables, its two rows, and what the two appends of a step do to them. Conditions: as each theorem says. -/
import Derived.WalkKit
import Derived.WalkSpells
import Derived.WalkLawsBesides
import Derived.BigRegion
import Derived.BigQuiet
import Derived.Lib.Hide
import Derived.Deep.AppendLies
import Derived.Test.YtmeooadgdagiiaaRows
import Derived.Deep.RegionLaw

namespace Lox
open Go Go.RowKit

/-- Block b holds just these cells, and may be written. -/
def Blk (w : World) (b : Nat) (T : TypeId) (xs : List Value) : Prop := w.heap[b]? = some (.cells xs.toArray T (0, 0))

/-- From w to w' only blocks of S, and new ones, may have turned. -/
structure Mod (S : Nat → Prop) (w w' : World) : Prop where
  os : w'.os = w.os
  tape : w'.tape = w.tape
  output : w'.output = w.output
  size : w.heap.size ≤ w'.heap.size
  block : ∀ k, k < w.heap.size → ¬ S k → w'.heap[k]? = w.heap[k]?

theorem lt_of_cell {w : World} {a : Addr} {v : Value} (h : w.cell? a = some v) : a.block < w.heap.size := by
  unfold World.cell? at h
  rcases Nat.lt_or_ge a.block w.heap.size with h1 | h1
  · exact h1
  · rw [Array.getElem?_eq_none h1] at h; cases h

section Blk
variable {w : World} {b : Nat} {T : TypeId} {xs : List Value}

theorem Blk.lt (h : Blk w b T xs) : b < w.heap.size := (Array.getElem?_eq_some_iff.1 h).1

theorem Blk.cell (h : Blk w b T xs) (i : Nat) : w.cell? ⟨b, i, none⟩ = xs[i]? := by
  unfold Blk at h
  simp [World.cell?, h]

theorem Blk.at {i : Nat} {v : Value} (h : Blk w b T xs) (hv : xs[i]? = some v) : w.cell? ⟨b, i, none⟩ = some v := by rw [h.cell, hv]

theorem Blk.frozen (h : Blk w b T xs) (i : Nat) : w.frozen? ⟨b, i, none⟩ = false := by
  unfold Blk at h
  simp [World.frozen?, h]

theorem Blk.shape (h : Blk w b T xs) : w.shape? b = some (T, xs.length) := by
  unfold Blk at h
  simp [World.shape?, h]

theorem Blk.set (h : Blk w b T xs) (i : Nat) (v : Value) : Blk (w.setCell ⟨b, i, none⟩ v) b T (xs.set i v) := by
  unfold Blk at *
  simp [World.setCell, Array.getElem?_modify, h]

theorem Blk.other (h : Blk w b T xs) {a : Addr} (v : Value) (hne : a.block ≠ b) : Blk (w.setCell a v) b T xs := by
  unfold Blk at *
  rw [Below.heap_setCell _ _ _ _ (Ne.symm hne)]; exact h

theorem Blk.alloc (h : Blk w b T xs) (o : Obj) : Blk (w.alloc o) b T xs := by
  have := h.lt
  unfold Blk at *
  rw [Below.heap_alloc _ _ _ this]; exact h

theorem Blk.new (w : World) (xs : List Value) (T : TypeId) : Blk (w.alloc (.cells xs.toArray T)) w.heap.size T xs := by
  unfold Blk World.alloc
  simp

theorem Blk.new' (w : World) (c : Array Value) (T : TypeId) : Blk (w.alloc (.cells c T)) w.heap.size T c.toList := by
  unfold Blk World.alloc
  simp

theorem Blk.drew (h : Blk w b T xs) : Blk w.drew b T xs := h

theorem Blk.mod {w' : World} {S : Nat → Prop} (h : Blk w b T xs) (hm : Mod S w w') (hs : ¬ S b) : Blk w' b T xs := by
  have := hm.block b h.lt hs
  unfold Blk at *
  rw [this, h]

theorem Blk.below {w' : World} {B : Nat} (h : Blk w b T xs) (hm : Below B w w') (hs : b < B) : Blk w' b T xs := by
  have := hm.block b hs
  unfold Blk at *
  rw [this, h]

theorem Blk.grown {w' : World} {row : Option Nat} (h : Blk w b T xs) (hm : w.grownBy w' row) (hs : some b ≠ row) : Blk w' b T xs := by
  have := hm.block b h.lt hs
  unfold Blk at *
  rw [this, h]
end Blk

section Mod
variable {S S' : Nat → Prop} {a b c w w' : World}

theorem Mod.refl (S : Nat → Prop) (w : World) : Mod S w w := ⟨rfl, rfl, rfl, Nat.le_refl _, fun _ _ _ => rfl⟩

theorem Mod.trans (h : Mod S a b) (k : Mod S b c) : Mod S a c :=
  ⟨k.os.trans h.os, k.tape.trans h.tape, k.output.trans h.output, Nat.le_trans h.size k.size,
    fun i hi hs => (k.block i (Nat.lt_of_lt_of_le hi h.size) hs).trans (h.block i hi hs)⟩

theorem Mod.trans' (h : Mod S a b) (k : Mod S' b c) (hs : ∀ i, i < a.heap.size → S' i → S i) : Mod S a c :=
  ⟨k.os.trans h.os, k.tape.trans h.tape, k.output.trans h.output, Nat.le_trans h.size k.size,
    fun i hi hn => (k.block i (Nat.lt_of_lt_of_le hi h.size) (fun h' => hn (hs i hi h'))).trans (h.block i hi hn)⟩

theorem Mod.mono (h : Mod S a b) (hs : ∀ i, i < a.heap.size → S i → S' i) : Mod S' a b :=
  ⟨h.os, h.tape, h.output, h.size, fun i hi hn => h.block i hi (fun h' => hn (hs i hi h'))⟩

theorem Mod.alloc (h : Mod S a w) (o : Obj) : Mod S a (w.alloc o) :=
  h.trans ⟨rfl, rfl, rfl, by simp, fun k hk _ => Below.heap_alloc _ _ _ hk⟩

theorem Mod.drew (h : Mod S a w) : Mod S a w.drew := ⟨h.os, h.tape, h.output, h.size, h.block⟩

theorem Mod.set (h : Mod S a w) {p : Addr} (hp : S p.block ∨ a.heap.size ≤ p.block) (v : Value) : Mod S a (w.setCell p v) := by
  refine ⟨h.os, h.tape, h.output, by simpa [World.setCell] using h.size, fun k hk hn => ?_⟩
  rw [Below.heap_setCell _ _ _ _ (by rintro rfl; rcases hp with hp | hp; exact hn hp; omega)]
  exact h.block k hk hn

theorem Mod.grown {row : Option Nat} (h : Mod S a w) (hg : w.grownBy w' row) (hr : ∀ k, row = some k → k < a.heap.size → S k) : Mod S a w' :=
  ⟨hg.os.trans h.os, hg.tape.trans h.tape, hg.output.trans h.output, Nat.le_trans h.size hg.size,
    fun k hk hn => (hg.block k (Nat.lt_of_lt_of_le hk h.size) (fun e => hn (hr k e.symm hk))).trans (h.block k hk hn)⟩

theorem Mod.toBelow (h : Mod (fun _ => False) w w') : Below w.heap.size w w' := ⟨h.os, h.tape, h.output, h.size, fun k hk => h.block k hk (fun h => h)⟩

theorem Mod.ofBelow (h : Below w.heap.size w w') : Mod (fun _ => False) w w' := ⟨h.os, h.tape, h.output, h.size, fun k hk _ => h.block k hk⟩

theorem Mod.cell (h : Mod S w w') {p : Addr} (hp : p.block < w.heap.size) (hs : ¬ S p.block) : w'.cell? p = w.cell? p :=
  World.cell?_of_block (w := w) (h.block p.block hp hs)

theorem Mod.frozen (h : Mod S w w') {p : Addr} (hp : p.block < w.heap.size) (hs : ¬ S p.block) : w'.frozen? p = w.frozen? p :=
  World.frozen?_of_block (w := w) (h.block p.block hp hs)
end Mod

/-- Numbers as cells. -/
def ints (xs : List Int) : List Value := xs.map (Value.int .i64)

theorem ints_at {xs : List Int} {i : Nat} {x : Int} (h : xs[i]? = some x) : (ints xs)[i]? = some (.int .i64 x) := by simp [ints, h]

theorem ints_set (xs : List Int) (i : Nat) (x : Int) : (ints xs).set i (.int .i64 x) = ints (xs.set i x) := by simp [ints, List.map_set]

end Lox

namespace Lox
open Go Go.RowKit

theorem addr_lit (b o n : Nat) : (⟨b, o, none⟩ : Addr).add n = ⟨b, o + n, none⟩ := Addr.add_lit b o n

/-- A slice value of n elements, of size cells each, reads as the cells xs. -/
def Sl (w : World) (A : Option Addr) (n size : Nat) (xs : List Value) : Prop :=
  xs.length = n * size ∧ (0 < n → ∃ b o, A = some ⟨b, o, none⟩ ∧ ∀ j v, xs[j]? = some v → w.cell? ⟨b, o + j, none⟩ = some v)

section Sl
variable {w w' : World} {A : Option Addr} {n size : Nat} {xs : List Value}

theorem Sl.keep (h : Sl w A n size xs) (hk : ∀ p : Addr, p.block < w.heap.size → w'.cell? p = w.cell? p) : Sl w' A n size xs :=
  ⟨h.1, fun hn => by
    obtain ⟨b, o, e, hc⟩ := h.2 hn
    exact ⟨b, o, e, fun j v hv => (hk _ (lt_of_cell (hc j v hv))).trans (hc j v hv)⟩⟩

theorem Sl.mod (h : Sl w A n size xs) (hm : Mod (fun _ => False) w w') : Sl w' A n size xs :=
  h.keep fun _ hp => hm.cell hp (fun h => h)

theorem Sl.alloc (h : Sl w A n size xs) (o : Obj) : Sl (w.alloc o) A n size xs := h.mod ((Mod.refl _ _).alloc o)
theorem Sl.drew (h : Sl w A n size xs) : Sl w.drew A n size xs := h

/-- The cells that are read lie below block B. -/
def Far (B : Nat) (A : Option Addr) (n : Nat) : Prop := 0 < n → ∀ b o, A = some ⟨b, o, none⟩ → b < B

theorem Sl.far (h : Sl w A n size xs) (hs : 0 < size) : Far w.heap.size A n := fun hn b o e => by
  obtain ⟨b', o', e', hc⟩ := h.2 hn
  rw [e] at e'
  cases e'
  have hl : 0 < xs.length := by rw [h.1]; exact Nat.mul_pos hn hs
  have := lt_of_cell (hc 0 _ (List.getElem?_eq_getElem hl))
  exact this

theorem Sl.below {B : Nat} (h : Sl w A n size xs) (hf : Far B A n) (hb : ∀ k, k < B → w'.heap[k]? = w.heap[k]?) : Sl w' A n size xs :=
  ⟨h.1, fun hn => by
    obtain ⟨b, o, e, hc⟩ := h.2 hn
    exact ⟨b, o, e, fun j v hv => (World.cell?_of_block (hb b (hf hn b o e))).trans (hc j v hv)⟩⟩

theorem Sl.nil (w : World) (size : Nat) : Sl w none 0 size [] := ⟨by simp, fun h => by omega⟩

/-- The cell of an element of one cell. -/
theorem Sl.at1 (h : Sl w A n 1 xs) {k : Nat} (hk : k < n) : ∃ b o v, A = some ⟨b, o, none⟩ ∧ xs[k]? = some v ∧ w.cell? ⟨b, o + k, none⟩ = some v := by
  obtain ⟨b, o, e, hc⟩ := h.2 (by omega)
  have hl : k < xs.length := by rw [h.1]; omega
  exact ⟨b, o, xs[k], e, List.getElem?_eq_getElem hl, hc k _ (List.getElem?_eq_getElem hl)⟩
end Sl

/-- Float numbers, by their bits, as cells. -/
def flts (xs : List Nat) : List Value := xs.map (Value.float .f64)

theorem flts_at {xs : List Nat} {i x : Nat} (h : xs[i]? = some x) : (flts xs)[i]? = some (.float .f64 x) := by simp [flts, h]
theorem flts_getD {xs : List Nat} {i : Nat} (h : i < xs.length) : (flts xs)[i]? = some (.float .f64 (xs.getD i 0)) := by simp [flts, h]
end Lox

namespace Lox
open Go Go.RowKit

theorem run_store_flt (P : Program) (w : World) (a : Addr) (m : Mode) (k : FloatKind) (x : Nat) : (store a (.float k x) m).run P w = stored P w a (.float k x) m := run_store P w a _ m rfl

theorem run_store_fn (P : Program) (w : World) (a : Addr) (m : Mode) (f : Fn) (b : Array Value) (c : Array Value) : (store a (.func f b c) m).run P w = stored P w a (.func f b c) m := run_store P w a _ m rfl

theorem datum_order_self (d : Ieee.Datum) : d.order d = if d.isNaN then none else some .eq := by
  cases d with
  | number s m i => simp [Ieee.Datum.order, Ieee.Datum.isNaN, compare, compareOfLessAndEq]
  | infinity s => simp [Ieee.Datum.order, Ieee.Datum.isNaN, compare, compareOfLessAndEq]
  | nan s t => simp [Ieee.Datum.order, Ieee.Datum.isNaN]

theorem datum_order_num (d e : Ieee.Datum) (h : d.order e ≠ none) : d.isNaN = false ∧ e.isNaN = false := by
  cases d <;> cases e <;> simp [Ieee.Datum.order, Ieee.Datum.isNaN] at h ⊢

/-- A float number, by its bits, that is a number (or infinite). -/
def Num (x : Nat) : Prop := (FloatKind.f64.decode x).isNaN = false

theorem Num.of_order {x y : Nat} {o : Ordering} (h : FloatKind.f64.format.order x y = some o) : Num x :=
  (datum_order_num (FloatKind.f64.decode x) (FloatKind.f64.decode y) (by
    show FloatKind.f64.format.order x y ≠ none
    rw [h]; simp)).1

theorem Num.self {x : Nat} (h : Num x) : FloatKind.f64.format.order x x = some .eq := by
  have := datum_order_self (FloatKind.f64.decode x)
  rw [h] at this
  exact this
end Lox
namespace Lox
open Go Go.RowKit

/-- A point: a slice of float numbers. -/
structure Pt where
  A : Option Addr
  n : Nat
  c : Nat
  xs : List Nat

instance : Inhabited Pt := ⟨⟨none, 0, 0, []⟩⟩

def Pt.v (p : Pt) : Value := .slice p.A p.n p.c
def Pt.Ok (w : World) (p : Pt) : Prop := Sl w p.A p.n 1 (flts p.xs) ∧ p.n ≤ 9223372036854775807

theorem Pt.Ok.len {w : World} {p : Pt} (h : p.Ok w) : p.xs.length = p.n := by have := h.1.1; simpa [flts] using this

theorem Pt.Ok.cell {w : World} {p : Pt} (h : p.Ok w) {k : Nat} (hk : k < p.n) : ∃ b o, p.A = some ⟨b, o, none⟩ ∧ w.cell? ⟨b, o + k, none⟩ = some (.float .f64 (p.xs.getD k 0)) := by
  obtain ⟨b, o, v, e1, e2, e3⟩ := h.1.at1 hk
  have hl := h.len
  rw [flts_getD (by omega)] at e2
  cases e2
  exact ⟨b, o, e1, e3⟩
end Lox

namespace Go.Proofs.Ytmeooadgdagiiaa.W
open Go.RowKit Lox
set_option linter.unusedVariables false

theorem run_trunc (x : Nat) (hx : Num x) : ∃ y, ∀ w : World, (callFunc 74 #[.float .f64 x]).run Try.prog w = .ok (.value (.float .f64 y)) w := by
  have key : ∀ d, FloatKind.f64.decode x = d → d.isNaN = false → (Extern.MathFloor.toIntegral "math.archTrunc" .zero #[.float .f64 x]) = pure (.float .f64 (FloatKind.f64.encode (d.integral .zero))) := by
    intro d hd hn
    delta Extern.MathFloor.toIntegral
    conv => lhs; whnf
    rw [hd]
    cases d with
    | nan s t => simp [Ieee.Datum.isNaN] at hn
    | number s m i => rfl
    | infinity s => rfl
  refine ⟨FloatKind.f64.encode ((FloatKind.f64.decode x).integral .zero), fun w => ?_⟩
  rw [run_callFunc_extern Try.func74 (by kernel_rfl) (by kernel_rfl) (by kernel_rfl) (e := Extern.MathFloor.toIntegral "math.archTrunc" .zero) (by kernel_rfl), key _ rfl hx]
  rfl

set_option maxHeartbeats 400000 in
theorem trunc_any (x : Nat) (w : World) (hx : Num x) :
    Calls Try.prog 60 #[.float .f64 x] w fun e w' => (∃ y, e = .returned (.float .f64 y)) ∧ w = w' := by
  obtain ⟨y, hy⟩ := run_trunc x hx
  go_enter Try.func60, Try.ntmps60
  go_wp2
  go_ret
  exact ⟨⟨y, rfl⟩, rfl⟩

set_option maxHeartbeats 1000000 in
theorem same_yes (A B : Option Addr) (n c c' : Nat) (xs : List Nat) (w : World) (ha : Sl w A n 1 (flts xs)) (hb : Sl w B n 1 (flts xs)) (hn : n ≤ 9223372036854775807) (hx : ∀ x ∈ xs, Num x) :
    Calls Try.prog 15 #[.slice A n c, .slice B n c'] w fun e w' => e = .returned (.bool true) ∧ w = w' := by
  have hl : xs.length = n := by have := ha.1; simpa [flts] using this
  go_enter Try.func15, Try.ntmps15
  go_wp2
  go_loop [14] (fun i => ∃ k : Nat, k ≤ n ∧ i = .int .i64 k) (fun i => n - (intOf i).toNat)
  case atStart => exact ⟨0, Nat.zero_le _, rfl⟩
  case round =>
    obtain ⟨k, hk, rfl⟩ := hrel
    by_cases hlt : k < n
    · obtain ⟨b, o, v, e1, e2, c1⟩ := ha.at1 hlt
      obtain ⟨b', o', v', e3, e4, c2⟩ := hb.at1 hlt
      rw [e2] at e4
      cases e4
      have hk2 : k < xs.length := by omega
      rw [flts_getD hk2] at e2
      cases e2
      have hxx : FloatKind.f64.format.order (xs.getD k 0) (xs.getD k 0) = some .eq := (hx _ (by simp [hk2])).self
      obtain ⟨x, ex⟩ : ∃ x, x = xs.getD k 0 := ⟨_, rfl⟩
      rw [← ex] at c1 c2 hxx
      clear ex hk2 ha hb hx
      subst e1 e3
      go_wp2
      go_round
      case rel => exact ⟨k + 1, by omega, by go_num⟩
      case measure => simp [intOf]; omega
    · obtain rfl : k = n := by omega
      go_wp2
      go_ret
      exact ⟨rfl, rfl⟩

/-- What Grid tells of points: where it says yes, each is of the size asked for, and each of its numbers is one. -/
def GridTold (pts : List Pt) (dims : Int) (w : World) (e : Ending) (w' : World) : Prop :=
  w = w' ∧ ∃ b, e = .returned (.bool b) ∧ (b = true → (∀ p ∈ pts, (p.n : Int) = dims ∧ ∀ x ∈ p.xs, Num x) ∧ 0 < dims)

theorem grid_no {pts : List Pt} {dims : Int} {w : World} : GridTold pts dims w (.returned (.bool false)) w := ⟨rfl, false, rfl, fun h => by cases h⟩

set_option maxHeartbeats 2000000 in
theorem grid_any (O : Option Addr) (m c : Nat) (pts : List Pt) (dims : Int) (most : Nat) (w : World) (ho : Sl w O m 1 (pts.map Pt.v)) (hm : m ≤ 9223372036854775807) (hp : ∀ p ∈ pts, p.Ok w) :
    Calls Try.prog 27 #[.slice O m c, .int .i64 dims, .float .f64 most] w (GridTold pts dims w) := by
  have hl : pts.length = m := by have := ho.1; simpa using this
  have hneg : ∀ (x : Nat) (w : World), (Op.unary .neg (.float .f64 x)).run Try.prog w = .ok (.float .f64 (Op.negFloat .f64 x)) w := fun _ _ => rfl
  go_enter Try.func27, Try.ntmps27
  go_wp2
  go_loop [13] (fun i => ∃ k : Nat, k ≤ m ∧ i = .int .i64 k ∧ ∀ p ∈ pts.take k, (p.n : Int) = dims ∧ ∀ x ∈ p.xs, Num x) (fun i => m - (intOf i).toNat)
  case atStart => exact ⟨0, Nat.zero_le _, rfl, by simp⟩
  case round =>
    obtain ⟨k, hk, rfl, hdone⟩ := hrel
    have HD := Lib.hid hdone
    clear hdone
    by_cases hlt : k < m
    · obtain ⟨b, o, v, e1, e2, c1⟩ := ho.at1 hlt
      have hk2 : k < pts.length := by omega
      have e3 : (pts.map Pt.v)[k]? = some (pts[k]).v := by simp [hk2]
      rw [e3] at e2
      cases e2
      have hpk : (pts[k]).Ok w := hp _ (List.getElem_mem hk2)
      obtain ⟨p, ep⟩ : ∃ p, p = pts[k] := ⟨_, rfl⟩
      rw [← ep] at c1 hpk e3
      have HTK : Hid (pts.take (k + 1) = pts.take k ++ [p]) := by show _ = _; rw [List.take_succ_eq_append_getElem hk2, ep]
      clear ep e3 hk2
      obtain ⟨A, q, c', xs⟩ := p
      have hpn : q ≤ 9223372036854775807 := hpk.2
      have hlx : xs.length = q := hpk.len
      have HK : Hid (Pt.Ok w ⟨A, q, c', xs⟩) := hpk
      have HLX := Lib.hid hlx
      replace c1 : w.cell? ⟨b, o + k, none⟩ = some (.slice A q c') := c1
      clear hpk hlx
      subst e1
      by_cases hdim : (q : Int) = dims
      · subst hdim
        go_wp2
        go_loop [23] (fun i => ∃ j : Nat, j ≤ q ∧ i = .int .i64 j ∧ ∀ x ∈ xs.take j, Num x) (fun i => q - (intOf i).toNat)
        case atStart => exact ⟨0, Nat.zero_le _, rfl, by simp⟩
        case round =>
          obtain ⟨j, hj, rfl, hdj⟩ := hrel
          have HDJ := Lib.hid hdj
          clear hdj
          by_cases hlj : j < q
          · obtain ⟨b2, o2, e4, c2⟩ := HK.out.cell hlj
            replace e4 : A = some ⟨b2, o2, none⟩ := e4
            replace c2 : w.cell? ⟨b2, o2 + j, none⟩ = some (.float .f64 (xs.getD j 0)) := c2
            have HTJ : Hid (xs.take (j + 1) = xs.take j ++ [xs.getD j 0]) := by
              show _ = _
              have : j < xs.length := by rw [HLX.out]; exact hlj
              rw [List.take_succ_eq_append_getElem this]; simp [this]
            obtain ⟨x, ex⟩ : ∃ x, x = xs.getD j 0 := ⟨_, rfl⟩
            rw [← ex] at c2 HTJ
            clear ex
            subst e4
            by_cases hnx : Num x
            · have HN := Lib.hid hnx
              clear hnx
              obtain ⟨g1, hg1⟩ : ∃ g1 : Bool, (FloatKind.f64.format.order x (Op.negFloat .f64 most) == some .gt || FloatKind.f64.format.order x (Op.negFloat .f64 most) == some .eq) = g1 := ⟨_, rfl⟩
              obtain ⟨g2, hg2⟩ : ∃ g2 : Bool, (FloatKind.f64.format.order x most == some .lt || FloatKind.f64.format.order x most == some .eq) = g2 := ⟨_, rfl⟩
              cases g1 <;> cases g2
              all_goals go_wp2_with (go_at_call 60; refine (trunc_any x _ HN.out).mono ?_; rintro _ _ ⟨⟨y, rfl⟩, rfl⟩)
              all_goals first
                | (go_ret; exact grid_no)
                | (go_round
                   case rel =>
                     refine ⟨j + 1, by omega, by go_num, ?_⟩
                     rw [HTJ.out]
                     intro z hz
                     rcases List.mem_append.1 hz with h | h
                     · exact HDJ.out z h
                     · rw [List.mem_singleton.1 h]; exact HN.out
                   case measure => simp [intOf]; omega)
            · have hno : ∀ y, FloatKind.f64.format.order x y = none := fun y => by
                cases hh : FloatKind.f64.format.order x y with
                | none => rfl
                | some z => exact absurd (Num.of_order hh) hnx
              go_wp2
              go_ret
              exact grid_no
          · obtain rfl : j = q := by omega
            go_wp2_with fail
            go_round
            case rel =>
              refine ⟨k + 1, by omega, by go_num, ?_⟩
              rw [HTK.out]
              intro z hz
              rcases List.mem_append.1 hz with h | h
              · exact HD.out z h
              · rw [List.mem_singleton.1 h]
                refine ⟨rfl, ?_⟩
                have := HDJ.out
                rw [List.take_of_length_le (by rw [HLX.out]; exact Nat.le_refl _)] at this
                exact this
            case measure => simp [intOf]; omega
      · have hne : ((q : Int) != dims) = true := by simp [hdim]
        have hne2 : ((q : Int) == dims) = false := by simp [hdim]
        go_wp2
        go_ret
        exact grid_no
    · obtain rfl : k = m := by omega
      by_cases h0 : 0 < dims
      · go_wp2
        go_ret
        refine ⟨rfl, true, rfl, fun _ => ⟨?_, h0⟩⟩
        have := HD.out
        rw [List.take_of_length_le (by omega)] at this
        exact this
      · have hd0 : decide (0 < dims) = false := by simp [h0]
        go_wp2
        go_ret
        exact grid_no
end Go.Proofs.Ytmeooadgdagiiaa.W

namespace Go.Proofs.Ytmeooadgdagiiaa.W
open Go.RowKit Lox
set_option linter.unusedVariables false

attribute [local go_sem] run_store_flt

theorem info_f64 : (Try.prog.info? 27).map (fun i => (i.zero, i.size, i.bytes)) = some (some (.float .f64 0), 1, 8) := by kernel_rfl

/-- A copy of a point, in memory of its own. -/
def NewPt (n : Nat) (xs : List Nat) (w : World) (e : Ending) (w' : World) : Prop :=
  ∃ A' c', e = .returned (.slice A' n c') ∧ Sl w' A' n 1 (flts xs) ∧ Mod (fun _ => False) w w' ∧ ∀ b o, A' = some ⟨b, o, none⟩ → w.heap.size ≤ b

theorem mod_of_grown {w w' : World} (h : w.grownBy w' none) : Mod (fun _ => False) w w' := ⟨h.os, h.tape, h.output, h.size, fun k hk _ => h.block k hk (by simp)⟩

set_option maxHeartbeats 1000000 in
theorem floats_any (A : Option Addr) (n c : Nat) (xs : List Nat) (w : World) (h : Sl w A n 1 (flts xs)) (hn : n ≤ 1099511627776) (h0 : 0 < n) :
    Calls Try.prog 33 #[.slice A n c] w (NewPt n xs w) := by
  obtain ⟨i0, hi0, hz0, hz1, hz2⟩ := info_parts info_f64
  have HI := Lib.hid (And.intro hi0 (And.intro hz0 (And.intro hz1 hz2)))
  clear hi0 hz0 hz1 hz2
  have hlx : xs.length = n := by have := h.1; simpa [flts] using this
  obtain ⟨b, o, e, hc⟩ := h.2 h0
  subst e
  have H := Lib.hid h
  have HC := Lib.hid hc
  have HLX := Lib.hid hlx
  clear h hc hlx
  go_enter Try.func33, Try.ntmps33
  go_wp2_with (at_builtin; refine wpList_append_lies _ rfl _ _ _ rfl w.heap.size 27 i0 (.float .f64 0) 1 8 Try.underlying26 HI.out.1 HI.out.2.1 HI.out.2.2.1 HI.out.2.2.2 rfl (by decide) (.slice none 0 0) 0 [] rfl (World.ownsRow_nil _ _ _ _) ⟨b, o, none⟩ n c (flts xs) rfl (by rw [H.out.1]) (by intro j u hu; rw [addr_lit]; exact HC.out j u hu) (by intro u hu; obtain ⟨z, _, rfl⟩ := List.mem_map.1 hu; rfl) h0 (by unfold maxLen; omega) (by omega) (Nat.le_refl _) w.heap.size rfl ?_; intro g cap w1 hown hgrow hat hlt)
  go_ret
  have hg : g = w.heap.size := by
    rcases hat with hat | hat
    · cases hat
    · exact hat
  simp only [Nat.zero_add, List.nil_append] at hown ⊢
  refine ⟨_, _, rfl, ⟨H.out.1, fun _ => ⟨g, 0, rfl, fun j u hu => ?_⟩⟩, mod_of_grown hgrow, fun b' o' e' => ?_⟩
  · have := hown.cells (g := g) rfl j u hu
    rw [addr_lit] at this
    exact this
  · cases e'
    omega

/-- A node of a vantage-point tree that is written down. -/
structure VN where
  p : Pt
  r : Nat
  c : Int
  f : Int

instance : Inhabited VN := ⟨⟨default, 0, 0, 0⟩⟩

def VN.agg (x : VN) : Value := .agg #[x.p.v, .float .f64 x.r, .int .i64 x.c, .int .i64 x.f]

/-- What stands at a node's place. -/
def VN.At (w : World) (b o : Nat) (x : VN) : Prop :=
  w.cell? ⟨b, o, none⟩ = some x.p.v ∧ w.cell? ⟨b, o + 1, none⟩ = some (.float .f64 x.r) ∧ w.cell? ⟨b, o + 2, none⟩ = some (.int .i64 x.c) ∧ w.cell? ⟨b, o + 3, none⟩ = some (.int .i64 x.f)

/-- A list of nodes that came in. -/
def Nodes (w : World) (T : Option Addr) (xs : List VN) : Prop :=
  xs.length ≤ 9223372036854775807 ∧ (0 < xs.length → ∃ b o, T = some ⟨b, o, none⟩ ∧ ∀ (i : Nat) (x : VN), xs[i]? = some x → x.At w b (o + i * 4)) ∧ ∀ x ∈ xs, x.p.Ok w

/-- A yes or no, and nothing else is done. -/
def Told (w : World) (e : Ending) (w' : World) : Prop := (∃ b, e = .returned (.bool b)) ∧ Mod (fun _ => False) w w'

theorem Nodes.mod {w w' : World} {T : Option Addr} {xs : List VN} (h : Nodes w T xs) (hm : Mod (fun _ => False) w w') : Nodes w' T xs := by
  refine ⟨h.1, fun h0 => ?_, fun x hx => ⟨(h.2.2 x hx).1.mod hm, (h.2.2 x hx).2⟩⟩
  obtain ⟨b, o, e, hc⟩ := h.2.1 h0
  refine ⟨b, o, e, fun i x hx => ?_⟩
  obtain ⟨h1, h2, h3, h4⟩ := hc i x hx
  exact ⟨(hm.cell (lt_of_cell h1) (fun h => h)).trans h1, (hm.cell (lt_of_cell h2) (fun h => h)).trans h2, (hm.cell (lt_of_cell h3) (fun h => h)).trans h3, (hm.cell (lt_of_cell h4) (fun h => h)).trans h4⟩

def VC (xs : List VN) (k : Nat) : Int := ((xs[k]?).map VN.c).getD 0
def VF (xs : List VN) (k : Nat) : Int := ((xs[k]?).map VN.f).getD 0

end Go.Proofs.Ytmeooadgdagiiaa.W

namespace Go.Proofs.Ytmeooadgdagiiaa.W
open Go.RowKit Lox
set_option linter.unusedVariables false

attribute [local go_sem] run_store_flt

/-- A node of a k-d tree that is written down. -/
structure KN where
  p : Pt
  pl : Int
  c : Int
  f : Int
  mn : Pt
  mx : Pt

instance : Inhabited KN := ⟨⟨default, 0, 0, 0, default, default⟩⟩

def KN.agg (x : KN) : Value := .agg #[x.p.v, .int .i64 x.pl, .int .i64 x.c, .int .i64 x.f, x.mn.v, x.mx.v]

/-- What stands at a node's place. -/
def KN.At (w : World) (b o : Nat) (x : KN) : Prop :=
  w.cell? ⟨b, o, none⟩ = some x.p.v ∧ w.cell? ⟨b, o + 1, none⟩ = some (.int .i64 x.pl) ∧ w.cell? ⟨b, o + 2, none⟩ = some (.int .i64 x.c) ∧ w.cell? ⟨b, o + 3, none⟩ = some (.int .i64 x.f) ∧ w.cell? ⟨b, o + 4, none⟩ = some x.mn.v ∧ w.cell? ⟨b, o + 5, none⟩ = some x.mx.v

theorem KN.At.mod {w w' : World} {b o : Nat} {x : KN} (h : x.At w b o) (hm : Mod (fun _ => False) w w') : x.At w' b o := by
  obtain ⟨h1, h2, h3, h4, h5, h6⟩ := h
  exact ⟨(hm.cell (lt_of_cell h1) (fun h => h)).trans h1, (hm.cell (lt_of_cell h2) (fun h => h)).trans h2, (hm.cell (lt_of_cell h3) (fun h => h)).trans h3, (hm.cell (lt_of_cell h4) (fun h => h)).trans h4, (hm.cell (lt_of_cell h5) (fun h => h)).trans h5, (hm.cell (lt_of_cell h6) (fun h => h)).trans h6⟩

/-- A node's three points are in memory. -/
def KN.Ok (w : World) (x : KN) : Prop := x.p.Ok w ∧ x.mn.Ok w ∧ x.mx.Ok w

theorem KN.Ok.mod {w w' : World} {x : KN} (h : x.Ok w) (hm : Mod (fun _ => False) w w') : x.Ok w' := ⟨⟨h.1.1.mod hm, h.1.2⟩, ⟨h.2.1.1.mod hm, h.2.1.2⟩, ⟨h.2.2.1.mod hm, h.2.2.2⟩⟩

/-- A list of nodes that came in. -/
def KNodes (w : World) (T : Option Addr) (xs : List KN) : Prop :=
  xs.length ≤ 9223372036854775807 ∧ (0 < xs.length → ∃ b o, T = some ⟨b, o, none⟩ ∧ ∀ (i : Nat) (x : KN), xs[i]? = some x → x.At w b (o + i * 6)) ∧ ∀ x ∈ xs, x.Ok w

/-- A node whose box's ends are no longer than that. -/
def KN.Small (x : KN) : Prop := x.mn.n ≤ 2147483647 ∧ x.mx.n ≤ 2147483647

theorem KNodes.mod {w w' : World} {T : Option Addr} {xs : List KN} (h : KNodes w T xs) (hm : Mod (fun _ => False) w w') : KNodes w' T xs := by
  refine ⟨h.1, fun h0 => ?_, fun x hx => (h.2.2 x hx).mod hm⟩
  obtain ⟨b, o, e, hc⟩ := h.2.1 h0
  exact ⟨b, o, e, fun i x hx => (hc i x hx).mod hm⟩

/-- A yes or no; if yes, the nodes' boxes are no longer than that. -/
def Told8 (xs : List KN) (w : World) (e : Ending) (w' : World) : Prop := (∃ b, e = .returned (.bool b) ∧ (b = true → ∀ x ∈ xs, x.Small)) ∧ Mod (fun _ => False) w w'

theorem blk_new_at' {w : World} {b : Nat} (h : w.heap.size = b) (c : Array Value) (T : TypeId) {xs : List Value} (hx : c.toList = xs) : Blk (w.alloc (.cells c T)) b T xs := by
  subst h hx
  exact Blk.new' w c T

def KC (xs : List KN) (k : Nat) : Int := ((xs[k]?).map KN.c).getD 0
def KF (xs : List KN) (k : Nat) : Int := ((xs[k]?).map KN.f).getD 0

end Go.Proofs.Ytmeooadgdagiiaa.W

namespace Go.Proofs.Ytmeooadgdagiiaa.W
open Go.RowKit Lox
set_option linter.unusedVariables false

set_option maxHeartbeats 1000000 in
theorem sides_at (T : Option Addr) (c : Nat) (xs : List KN) (pt : Nat) (i : Nat) (x : KN) (w : World) (hb : Blk w pt 28 [.slice T xs.length c]) (h : KNodes w T xs) (hi : xs[i]? = some x) :
    Calls Try.prog 39 #[.int .i64 i, .pointer (some ⟨pt, 0, none⟩)] w fun e w' => e = .returned (.tuple #[.int .i64 x.c, .int .i64 x.f]) ∧ Mod (fun _ => False) w w' := by
  have cp := hb.at (i := 0) rfl
  obtain ⟨m, hm⟩ : ∃ m, m = xs.length := ⟨_, rfl⟩
  have him : i < m := by rw [hm]; exact (List.getElem?_eq_some_iff.1 hi).1
  have hml : m ≤ 9223372036854775807 := by rw [hm]; exact h.1
  obtain ⟨b, o, e, hc⟩ := h.2.1 (by omega)
  have hx := hc _ _ hi
  rw [← hm] at cp
  clear hm hi h hc hb
  obtain ⟨⟨A, n, c', ys⟩, r, cl, fu, ⟨A1, n1, k1, ys1⟩, ⟨A2, n2, k2, ys2⟩⟩ := x
  obtain ⟨c0, c1, c2, c3, c4, c5⟩ := hx
  simp only [Pt.v] at c0 c1 c2 c3 c4 c5
  subst e
  go_enter Try.func39, Try.ntmps39
  go_wp2
  go_region
  go_wp2
  exact bodyPost_ret (v := .tuple #[.int .i64 cl, .int .i64 fu]) (by simp [results, Try.results39, go_sem]) rfl ⟨rfl, (Mod.refl _ _).drew⟩

end Go.Proofs.Ytmeooadgdagiiaa.W

namespace Lox
open Go Go.RowKit

/-- The nodes from node i on, in order, each with its depth. -/
def ino (C F : Nat → Int) (n : Nat) (i dep : Nat) : List (Int × Int) :=
  (if h : (i : Int) < C i ∧ C i < n then ino C F n (C i).toNat (dep + 1) else []) ++ (((i : Int), (dep : Int)) :: (if h : (i : Int) < F i ∧ F i < n then ino C F n (F i).toNat (dep + 1) else []))
termination_by n - i
decreasing_by all_goals omega

/-- The nodes from a child on: none, if it is none. -/
def chl (C F : Nat → Int) (n : Nat) (c : Int) (above : Int) (dep : Nat) : List (Int × Int) := if above < c ∧ c < n then ino C F n c.toNat dep else []

theorem ino_eq (C F : Nat → Int) (n i dep : Nat) : ino C F n i dep = chl C F n (C i) i (dep + 1) ++ (((i : Int), (dep : Int)) :: chl C F n (F i) i (dep + 1)) := by
  rw [ino]
  unfold chl
  rfl

theorem chl_none {C F : Nat → Int} {n : Nat} {c above : Int} {dep : Nat} (h : ¬ (above < c ∧ c < n)) : chl C F n c above dep = [] := if_neg h

theorem chl_node {C F : Nat → Int} {n : Nat} {above : Int} {k dep : Nat} (h : above < k) (hk : k < n) : chl C F n k above dep = chl C F n (C k) k (dep + 1) ++ (((k : Int), (dep : Int)) :: chl C F n (F k) k (dep + 1)) := by
  unfold chl
  rw [if_pos ⟨h, by omega⟩]
  exact ino_eq C F n k dep

/-- How many are true. -/
def cnt (bs : List Bool) : Nat := bs.count true

theorem cnt_le (bs : List Bool) : cnt bs ≤ bs.length := List.count_le_length

theorem cnt_set {bs : List Bool} {k : Nat} (h : bs[k]? = some false) : cnt (bs.set k true) = cnt bs + 1 := by
  obtain ⟨hk, e⟩ := List.getElem?_eq_some_iff.1 h
  unfold cnt
  rw [List.count_set hk, e]
  simp
end Lox

namespace Lox
open Go Go.RowKit
set_option linter.unusedVariables false

/-- The shape of a tree, its nodes by their places. -/
inductive SH where
  | nil
  | node (k : Nat) (l r : SH)

def SH.ids : SH → List Nat
  | .nil => []
  | .node k l r => k :: (l.ids ++ r.ids)

/-- The nodes in the order of the walk. -/
def SH.ord : SH → List Nat
  | .nil => []
  | .node k l r => l.ord ++ k :: r.ord

/-- From place i on, below the node above, a tree of this shape hangs. -/
def SH.At (C F : Nat → Int) (n : Nat) : SH → Int → Int → Prop
  | .nil, i, _ => i = -1
  | .node k l r, i, above => i = k ∧ above < k ∧ k < n ∧ l.At C F n (C k) k ∧ r.At C F n (F k) k

theorem SH.at_chl {C F : Nat → Int} {n : Nat} : ∀ (s : SH) {i above : Int} {d : Nat}, s.At C F n i above → -1 ≤ above → (chl C F n i above d).map (·.1) = s.ord.map Int.ofNat := by
  intro s
  induction s with
  | nil => intro i above d h ha; rw [show i = -1 from h, chl_none (by omega)]; rfl
  | node k l r ihl ihr =>
    rintro i above d ⟨rfl, h1, h2, h3, h4⟩ ha
    rw [chl_node h1 h2, List.map_append, List.map_cons, ihl h3 (by omega), ihr h4 (by omega)]
    simp [SH.ord]

theorem SH.ord_len : ∀ s : SH, s.ord.length = s.ids.length := by
  intro s
  induction s with
  | nil => rfl
  | node k l r ihl ihr => simp only [SH.ord, SH.ids, List.length_append, List.length_cons, ihl, ihr]; omega

theorem SH.at_len {C F : Nat → Int} {n : Nat} (s : SH) {i above : Int} {d : Nat} (h : s.At C F n i above) (ha : -1 ≤ above := by omega) : (chl C F n i above d).length = s.ids.length := by
  have := congrArg List.length (s.at_chl (d := d) h ha)
  rw [List.length_map, List.length_map, s.ord_len] at this
  exact this

theorem SH.at_lt {C F : Nat → Int} {n : Nat} : ∀ (s : SH) {i above : Int}, s.At C F n i above → ∀ k ∈ s.ids, k < n := by
  intro s
  induction s with
  | nil => intro i above h k hk; cases hk
  | node j l r ihl ihr =>
    rintro i above ⟨rfl, h1, h2, h3, h4⟩ k hk
    rcases List.mem_cons.1 hk with rfl | hk
    · exact h2
    · rcases List.mem_append.1 hk with hk | hk
      · exact ihl h3 k hk
      · exact ihr h4 k hk

/-- Where such a tree hangs whose nodes were not met, the walk says yes, and has met just these. -/
def Yes (C F : Nat → Int) (n : Nat) (i above : Int) (ok ok' : Bool) (bs bs' : List Bool) : Prop :=
  ∀ s : SH, ok = true → s.At C F n i above → s.ids.Nodup → (∀ k ∈ s.ids, bs[k]? = some false) → ok' = true ∧ ∀ k, k ∉ s.ids → bs'[k]? = bs[k]?

theorem yes_none {C F : Nat → Int} {n : Nat} {above : Int} {ok : Bool} {bs : List Bool} : Yes C F n (-1) above ok ok bs bs := fun s h hs _ _ => ⟨h, fun _ _ => rfl⟩
theorem yes_false {C F : Nat → Int} {n : Nat} {i above : Int} {ok' : Bool} {bs bs' : List Bool} : Yes C F n i above false ok' bs bs' := fun s h => by cases h
theorem yes_seen {C F : Nat → Int} {n k : Nat} {above : Int} {ok ok' : Bool} {bs bs' : List Bool} (h : bs[k]? = some true) : Yes C F n k above ok ok' bs bs' := by
  intro s _ hs _ hb
  cases s with
  | nil => have : (k : Int) = -1 := hs; omega
  | node j l r =>
    obtain ⟨e, _⟩ := hs
    obtain rfl : k = j := by omega
    have := hb k (by simp [SH.ids])
    rw [h] at this
    cases this
theorem yes_out {C F : Nat → Int} {n : Nat} {i above : Int} {ok ok' : Bool} {bs bs' : List Bool} (h : ¬ above < i ∨ ¬ i < n) (hi : i ≠ -1) : Yes C F n i above ok ok' bs bs' := by
  intro s _ hs _ _
  cases s with
  | nil => exact absurd hs hi
  | node j l r => obtain ⟨e, h1, h2, _⟩ := hs; omega

theorem yes_node {C F : Nat → Int} {n k : Nat} {above : Int} {ok2 ok3 : Bool} {bs bs2 bs3 : List Bool} (eb : bs[k]? = some false) (h2 : Yes C F n (C k) k true ok2 (bs.set k true) bs2) (h3 : Yes C F n (F k) k ok2 ok3 bs2 bs3) : Yes C F n k above true ok3 bs bs3 := by
  intro s _ hs hn hb
  cases s with
  | nil => have : (k : Int) = -1 := hs; omega
  | node j l r =>
    obtain ⟨e, a1, a2, a3, a4⟩ := hs
    obtain rfl : k = j := by omega
    obtain ⟨n1, n2⟩ := List.nodup_cons.1 hn
    obtain ⟨n3, n4, n5⟩ := List.nodup_append.1 n2
    have hset : ∀ j, j ≠ k → (bs.set k true)[j]? = bs[j]? := fun j hj => List.getElem?_set_ne (Ne.symm hj)
    obtain ⟨e2, f2⟩ := h2 l rfl a3 n3 fun j hj => by
      rw [hset j (fun e => n1 (e ▸ List.mem_append.2 (.inl hj)))]
      exact hb j (by simp [SH.ids, hj])
    obtain ⟨e3, f3⟩ := h3 r e2 a4 n4 fun j hj => by
      rw [f2 j (fun h => n5 j h j hj rfl), hset j (fun e => n1 (e ▸ List.mem_append.2 (.inr hj)))]
      exact hb j (by simp [SH.ids, hj])
    refine ⟨e3, fun j hj => ?_⟩
    simp only [SH.ids, List.mem_cons, List.mem_append, not_or] at hj
    rw [f3 j hj.2.2, f2 j hj.2.1, hset j hj.1]

theorem rep_false {n k : Nat} (h : k < n) : (List.replicate n false)[k]? = some false := by simp [h]
end Lox

namespace Lox
open Go Go.RowKit

theorem Mod.grownBy {w w' : World} (h : Mod (fun _ => False) w w') : w.grownBy w' none :=
  ⟨h.os, h.tape, h.output, h.size, fun k hk _ => h.block k hk (fun h => h)⟩

theorem owns_ne {w : World} {B : Nat} {e T : TypeId} {size : Nat} {v : Value} {n : Nat} {xs ys : List Value} {g : Nat}
    (h : w.ownsRow B e size v n xs) (hb : Blk w g T ys) (hne : T ≠ e) : v.ownBlock ≠ some g := by
  intro hv
  rcases h.2 with ⟨rfl, _⟩ | ⟨g', cap, cur, rfl, _, hg, _⟩
  · simp [Value.ownBlock] at hv
  · simp only [Value.ownBlock, Option.some.injEq] at hv
    subst hv
    unfold Blk at hb
    rw [hb] at hg
    simp at hg
    exact hne hg.2

theorem owns_keep {w w' : World} {B : Nat} {e : TypeId} {size : Nat} {v : Value} {n : Nat} {xs : List Value}
    (h : w.ownsRow B e size v n xs) (hk : ∀ k, B ≤ k → k < w.heap.size → w'.heap[k]? = w.heap[k]?) : w'.ownsRow B e size v n xs := by
  refine ⟨h.1, ?_⟩
  rcases h.2 with hn | ⟨g, cap, cur, rfl, hb, hgg, rest⟩
  · exact .inl hn
  · exact .inr ⟨g, cap, cur, rfl, hb, by rw [hk g hb (Array.getElem?_eq_some_iff.1 hgg).1]; exact hgg, rest⟩

theorem Blk.keep {w w' : World} {B b : Nat} {T : TypeId} {xs : List Value} (h : Blk w b T xs) (hB : B ≤ b)
    (hk : ∀ k, B ≤ k → k < w.heap.size → w'.heap[k]? = w.heap[k]?) : Blk w' b T xs := by
  have := hk b hB h.lt
  unfold Blk at *
  rw [this, h]

/-- Each of these blocks is a row of numbers of its own. -/
def Each (T : TypeId) (B : Nat) (w : World) (gs : List Nat) (ps : List (List Int)) : Prop :=
  gs.length = ps.length ∧ ∀ (i g : Nat) (p : List Int), (gs[i]? : Option Nat) = some g → (ps[i]? : Option (List Int)) = some p → B ≤ g ∧ Blk w g T (ints p)

theorem Each.nil (T : TypeId) (B : Nat) (w : World) : Each T B w [] [] := ⟨rfl, fun i g p h => by simp at h⟩

theorem Each.keep {T : TypeId} {B : Nat} {w w' : World} {gs : List Nat} {ps : List (List Int)} (h : Each T B w gs ps)
    (hk : ∀ k, B ≤ k → k < w.heap.size → w'.heap[k]? = w.heap[k]?) : Each T B w' gs ps :=
  ⟨h.1, fun i g p hg hp => ⟨(h.2 i g p hg hp).1, (h.2 i g p hg hp).2.keep (h.2 i g p hg hp).1 hk⟩⟩

theorem Each.grown {T : TypeId} {B : Nat} {w w' : World} {gs : List Nat} {ps : List (List Int)} {row : Option Nat} (h : Each T B w gs ps)
    (hg : w.grownBy w' row) (hne : ∀ g ys, Blk w g T ys → row ≠ some g) : Each T B w' gs ps :=
  ⟨h.1, fun i g p hg' hp => ⟨(h.2 i g p hg' hp).1, (h.2 i g p hg' hp).2.grown hg (fun e => hne g _ (h.2 i g p hg' hp).2 e.symm)⟩⟩

theorem Each.snoc {T : TypeId} {B : Nat} {w : World} {gs : List Nat} {ps : List (List Int)} {g : Nat} {p : List Int} (h : Each T B w gs ps)
    (hg : B ≤ g) (hb : Blk w g T (ints p)) : Each T B w (gs ++ [g]) (ps ++ [p]) := by
  refine ⟨by simp [h.1], fun i g' p' hg' hp' => ?_⟩
  rcases Nat.lt_or_ge i gs.length with hi | hi
  · rw [List.getElem?_append_left hi] at hg'
    rw [List.getElem?_append_left (by rw [← h.1]; exact hi)] at hp'
    exact h.2 i g' p' hg' hp'
  · rw [List.getElem?_append_right hi] at hg'
    rw [List.getElem?_append_right (by rw [← h.1]; exact hi)] at hp'
    have h0 : i - gs.length = 0 := by
      rcases Nat.eq_zero_or_pos (i - gs.length) with h0 | h0
      · exact h0
      · rw [List.getElem?_eq_none (by simp; omega)] at hg'; cases hg'
    rw [h0] at hg'
    rw [← h.1, h0] at hp'
    simp at hg' hp'
    subst hg' hp'
    exact ⟨hg, hb⟩

/-- A slice of rows, each of d numbers and of a block of its own, all of them made from B on. -/
def RowsOf (T ST : TypeId) (d B : Nat) (w : World) (v : Value) (ps : List (List Int)) : Prop :=
  ∃ gs, Each T B w gs ps ∧ w.ownsRow B ST 1 v ps.length (gs.map fun g => .slice (some ⟨g, 0, none⟩) d d)
end Lox
namespace Lox
open Go Go.RowKit

/-- What a slice of rows is, written out: its block, and of each place the row's block and numbers. -/
theorem RowsOf.laid {T ST : TypeId} {d B : Nat} {w : World} {v : Value} {ps : List (List Int)} (h : RowsOf T ST d B w v ps) (hn : 0 < ps.length) :
    ∃ (b cap : Nat) (gs : List Nat), v = .slice (some ⟨b, 0, none⟩) ps.length cap ∧ B ≤ b ∧ b < w.heap.size ∧ gs.length = ps.length ∧
      ∀ i, i < ps.length → w.cell? ⟨b, i, none⟩ = some (.slice (some ⟨gs.getD i 0, 0, none⟩) d d) ∧ Blk w (gs.getD i 0) T (ints (ps.getD i [])) := by
  obtain ⟨gs, hE, hown⟩ := h
  rcases hown.2 with ⟨_, h0⟩ | ⟨g, cap, cur, rfl, hb, hg, hc⟩
  · omega
  · refine ⟨g, cap, gs, rfl, hb, (Array.getElem?_eq_some_iff.1 hg).1, hE.1, fun i hi => ⟨?_, ?_⟩⟩
    · have hlen : i < gs.length := by rw [hE.1]; exact hi
      have := hown.cells (g := g) rfl i (.slice (some ⟨gs.getD i 0, 0, none⟩) d d) (by simp [hlen])
      simpa [Addr.add_lit] using this
    · have hlen : i < gs.length := by rw [hE.1]; exact hi
      exact (hE.2 i _ _ (by simp [hlen]) (by simp [hi])).2
end Lox

namespace Go.Proofs.Ytmeooadgdagiiaa.W
open Go.RowKit Lox
set_option linter.unusedVariables false

/-- The function that goes on from a node, as a value: its variables are the seven behind each other. -/
def fromV (H : Nat) : Value := .func (Fn.func 65) #[] #[.pointer (some ⟨H + 4, 0, none⟩), .pointer (some ⟨H, 0, none⟩), .pointer (some ⟨H + 6, 0, none⟩), .pointer (some ⟨H + 1, 0, none⟩), .pointer (some ⟨H + 7, 0, none⟩), .pointer (some ⟨H + 2, 0, none⟩), .pointer (some ⟨H + 3, 0, none⟩)]

/-- Two rows of numbers of their own, made from B on. -/
structure Two (B : Nat) (w : World) (v1 v2 : Value) (os ds : List Int) : Prop where
  o1 : w.ownsRow B 3 1 v1 os.length (ints os)
  o2 : w.ownsRow B 3 1 v2 ds.length (ints ds)
  ne : ∀ k, v1.ownBlock = some k → v2.ownBlock ≠ some k

/-- The memory of the walk: H is where its variables begin. -/
structure WS (H n : Nat) (sd : Value) (w0 w : World) (ok : Bool) (os ds : List Int) (bs : List Bool) : Prop where
  bel : Below H w0 w
  size : H + 8 ≤ w.heap.size
  bn : Blk w H 3 [.int .i64 n]
  bsd : Blk w (H + 1) 87 [sd]
  bok : Blk w (H + 4) 4 [.bool ok]
  bS : Blk w (H + 5) 4 (bs.map Value.bool)
  bse : Blk w (H + 6) 130 [.slice (some ⟨H + 5, 0, none⟩) n n]
  bfr : Blk w (H + 7) 131 [fromV H]
  len : bs.length = n
  rows : ∃ v1 v2, Blk w (H + 2) 23 [v1] ∧ Blk w (H + 3) 23 [v2] ∧ Two (H + 8) w v1 v2 os ds

theorem own_ge {w : World} {B : Nat} {e : TypeId} {size : Nat} {v : Value} {n : Nat} {xs : List Value} {k : Nat} (h : w.ownsRow B e size v n xs) (hk : v.ownBlock = some k) : B ≤ k ∧ k < w.heap.size := by
  rcases h.2 with ⟨rfl, _⟩ | ⟨g, cap, cur, rfl, hb, hg, _⟩
  · simp [Value.ownBlock] at hk
  · simp only [Value.ownBlock, Option.some.injEq] at hk
    subst hk
    exact ⟨hb, (Array.getElem?_eq_some_iff.1 hg).1⟩

section
variable {H n : Nat} {sd : Value} {w0 w w' : World} {ok : Bool} {os ds : List Int} {bs : List Bool}

theorem Two.keep {B : Nat} {v1 v2 : Value} (h : Two B w v1 v2 os ds) (hk : ∀ k, B ≤ k → k < w.heap.size → w'.heap[k]? = w.heap[k]?) : Two B w' v1 v2 os ds :=
  ⟨owns_keep h.o1 hk, owns_keep h.o2 hk, h.ne⟩

theorem WS.mod (h : WS H n sd w0 w ok os ds bs) (hm : Mod (fun _ => False) w w') : WS H n sd w0 w' ok os ds bs := by
  obtain ⟨v1, v2, h1, h2, h3⟩ := h.rows
  have hs := h.size
  exact ⟨⟨hm.os.trans h.bel.os, hm.tape.trans h.bel.tape, hm.output.trans h.bel.output, Nat.le_trans h.bel.size hm.size, fun k hk => (hm.block k (by omega) (fun h => h)).trans (h.bel.block k hk)⟩, Nat.le_trans hs hm.size, h.bn.mod hm (fun h => h), h.bsd.mod hm (fun h => h), h.bok.mod hm (fun h => h), h.bS.mod hm (fun h => h), h.bse.mod hm (fun h => h), h.bfr.mod hm (fun h => h), h.len,
    v1, v2, h1.mod hm (fun h => h), h2.mod hm (fun h => h), h3.keep fun k _ hk => hm.block k hk (fun h => h)⟩

theorem below_set {B : Nat} (h : Below B w0 w) {a : Addr} (ha : B ≤ a.block) (v : Value) : Below B w0 (w.setCell a v) :=
  ⟨h.os, h.tape, h.output, by simpa [World.setCell] using h.size, fun k hk => (Below.heap_setCell _ _ _ _ (by omega)).trans (h.block k hk)⟩

theorem WS.no (h : WS H n sd w0 w ok os ds bs) : WS H n sd w0 (w.setCell ⟨H + 4, 0, none⟩ (.bool false)) false os ds bs := by
  obtain ⟨v1, v2, h1, h2, h3⟩ := h.rows
  have hs := h.size
  exact ⟨below_set h.bel (by show H ≤ H + 4; omega) _, by simpa [World.setCell] using hs, h.bn.other _ (by show H + 4 ≠ H; omega), h.bsd.other _ (by show H + 4 ≠ H + 1; omega), h.bok.set 0 _, h.bS.other _ (by show H + 4 ≠ H + 5; omega), h.bse.other _ (by show H + 4 ≠ H + 6; omega), h.bfr.other _ (by show H + 4 ≠ H + 7; omega), h.len,
    v1, v2, h1.other _ (by show H + 4 ≠ H + 2; omega), h2.other _ (by show H + 4 ≠ H + 3; omega), h3.keep fun k hk _ => Below.heap_setCell _ _ _ _ (by show k ≠ H + 4; omega)⟩

theorem WS.see (h : WS H n sd w0 w ok os ds bs) (k : Nat) : WS H n sd w0 (w.setCell ⟨H + 5, k, none⟩ (.bool true)) ok os ds (bs.set k true) := by
  obtain ⟨v1, v2, h1, h2, h3⟩ := h.rows
  have hs := h.size
  exact ⟨below_set h.bel (by show H ≤ H + 5; omega) _, by simpa [World.setCell] using hs, h.bn.other _ (by show H + 5 ≠ H; omega), h.bsd.other _ (by show H + 5 ≠ H + 1; omega), h.bok.other _ (by show H + 5 ≠ H + 4; omega), by rw [List.map_set]; exact h.bS.set k _, h.bse.other _ (by show H + 5 ≠ H + 6; omega), h.bfr.other _ (by show H + 5 ≠ H + 7; omega), by simpa using h.len,
    v1, v2, h1.other _ (by show H + 5 ≠ H + 2; omega), h2.other _ (by show H + 5 ≠ H + 3; omega), h3.keep fun k hk _ => Below.heap_setCell _ _ _ _ (by show k ≠ H + 5; omega)⟩
end

/-- In the midst of the two appends: what has been laid besides (fs), and what the rows are by now. -/
structure Mid (B : Nat) (w wx : World) (v1 v2 : Value) (c1 c2 : List Int) (fs : List (Nat × Int)) : Prop where
  bel : Below B w wx
  size : B ≤ wx.heap.size
  two : Two B wx v1 v2 c1 c2
  fresh : ∀ p ∈ fs, Blk wx p.1 3 [.int .i64 p.2] ∧ v1.ownBlock ≠ some p.1 ∧ v2.ownBlock ≠ some p.1

section
variable {B : Nat} {w wx w' : World} {v1 v2 : Value} {c1 c2 : List Int} {fs : List (Nat × Int)}

theorem Two.mid (h : Two B w v1 v2 c1 c2) (hB : B ≤ w.heap.size) : Mid B w w.drew v1 v2 c1 c2 [] := ⟨(Below.refl _ _).drew, hB, h.keep fun _ _ _ => rfl, fun p hp => by cases hp⟩

theorem Mid.build (h : Mid B w wx v1 v2 c1 c2 fs) (x : Int) : Mid B w (wx.alloc (.cells #[.int .i64 x] 3)) v1 v2 c1 c2 ((wx.heap.size, x) :: fs) := by
  have hs := h.size
  refine ⟨h.bel.alloc (by omega) _, by rw [World.size_alloc]; omega, h.two.keep fun k _ hk => Below.heap_alloc _ _ _ hk, fun p hp => ?_⟩
  rcases List.mem_cons.1 hp with rfl | hp
  · exact ⟨Blk.new _ [.int .i64 x] _, fun e => by have := (own_ge h.two.o1 e).2; omega, fun e => by have := (own_ge h.two.o2 e).2; omega⟩
  · exact ⟨(h.fresh p hp).1.alloc _, (h.fresh p hp).2⟩

theorem Mid.news (h : Mid B w wx v1 v2 c1 c2 fs) {x : Int} {G : Nat} (hm : (G, x) ∈ fs) : ∀ (j : Nat) (u : Value), ([Value.int .i64 x] : List Value)[j]? = some u → wx.cell? ((⟨G, 0, none⟩ : Addr).add j) = some u := by
  intro j u hu
  have := (h.fresh _ hm).1.at hu
  rw [addr_lit]
  simpa using this

theorem Mid.cell (h : Mid B w wx v1 v2 c1 c2 fs) {k i : Nat} {v : Value} (hk : k < B) (hc : w.cell? ⟨k, i, none⟩ = some v) : wx.cell? ⟨k, i, none⟩ = some v :=
  (World.cell?_of_block (w := w) (h.bel.block k hk)).trans hc

theorem Mid.frozen (h : Mid B w wx v1 v2 c1 c2 fs) {k i : Nat} (hk : k < B) (hc : w.frozen? ⟨k, i, none⟩ = false) : wx.frozen? ⟨k, i, none⟩ = false :=
  (World.frozen?_of_block (w := w) (h.bel.block k hk)).trans hc

theorem Mid.app1 (h : Mid B w wx v1 v2 c1 c2 fs) {g cap : Nat} {x : Int} (hown : w'.ownsRow B 3 1 (.slice (some ⟨g, 0, none⟩) (c1.length + 1) cap) (c1.length + 1) (ints c1 ++ [.int .i64 x])) (hg : wx.grownBy w' v1.ownBlock) (hat : v1.ownBlock = some g ∨ g = wx.heap.size) :
    Mid B w w' (.slice (some ⟨g, 0, none⟩) (c1.length + 1) cap) v2 (c1 ++ [x]) c2 fs := by
  have hne : v2.ownBlock ≠ some g := fun e => by
    rcases hat with hat | hat
    · exact h.two.ne g hat e
    · have := (own_ge h.two.o2 e).2; omega
  refine ⟨h.bel.grown hg h.size (fun k hk => (own_ge h.two.o1 hk).1), Nat.le_trans h.size hg.size, ⟨?_, ?_, fun k hk => ?_⟩, fun p hp => ⟨(h.fresh p hp).1.grown hg (fun e => (h.fresh p hp).2.1 e.symm), fun e => ?_, (h.fresh p hp).2.2⟩⟩
  · rw [List.length_append]; simpa [ints] using hown
  · exact h.two.o2.kept hg (by
      cases hv : v2.ownBlock with
      | none => exact .inl rfl
      | some k => exact .inr (fun e => h.two.ne k e.symm hv))
  · simp only [Value.ownBlock, Option.some.injEq] at hk
    subst hk
    exact hne
  · simp only [Value.ownBlock, Option.some.injEq] at e
    subst e
    rcases hat with hat | hat
    · exact (h.fresh p hp).2.1 hat
    · have := (h.fresh p hp).1.lt; omega

theorem Two.turn {B : Nat} {w : World} {v1 v2 : Value} {os ds : List Int} (h : Two B w v1 v2 os ds) : Two B w v2 v1 ds os := ⟨h.o2, h.o1, fun k h2 h1 => h.ne k h1 h2⟩

theorem Mid.turn (h : Mid B w wx v1 v2 c1 c2 fs) : Mid B w wx v2 v1 c2 c1 fs := ⟨h.bel, h.size, h.two.turn, fun p hp => ⟨(h.fresh p hp).1, (h.fresh p hp).2.2, (h.fresh p hp).2.1⟩⟩

theorem Mid.app2 (h : Mid B w wx v1 v2 c1 c2 fs) {g cap : Nat} {x : Int} (hown : w'.ownsRow B 3 1 (.slice (some ⟨g, 0, none⟩) (c2.length + 1) cap) (c2.length + 1) (ints c2 ++ [.int .i64 x])) (hg : wx.grownBy w' v2.ownBlock) (hat : v2.ownBlock = some g ∨ g = wx.heap.size) :
    Mid B w w' v1 (.slice (some ⟨g, 0, none⟩) (c2.length + 1) cap) c1 (c2 ++ [x]) fs := (h.turn.app1 hown hg hat).turn
end

section
variable {H n : Nat} {sd : Value} {w0 w wx : World} {ok : Bool} {os ds c1 c2 : List Int} {bs : List Bool} {fs : List (Nat × Int)} {v1 v2 : Value}

theorem Mid.fin (h : Mid (H + 8) w wx v1 v2 c1 c2 fs) (hw : WS H n sd w0 w ok os ds bs) : WS H n sd w0 ((wx.setCell ⟨H + 2, 0, none⟩ v1).setCell ⟨H + 3, 0, none⟩ v2) ok c1 c2 bs := by
  obtain ⟨u1, u2, h1, h2, h3⟩ := hw.rows
  have hk : ∀ k, k < H + 8 → k ≠ H + 2 → k ≠ H + 3 → ((wx.setCell ⟨H + 2, 0, none⟩ v1).setCell ⟨H + 3, 0, none⟩ v2).heap[k]? = w.heap[k]? := fun k hk a b =>
    (Below.heap_setCell _ _ _ _ b).trans ((Below.heap_setCell _ _ _ _ a).trans (h.bel.block k hk))
  have key : ∀ {k : Nat} {T : TypeId} {xs : List Value}, Blk w k T xs → k < H + 8 → k ≠ H + 2 → k ≠ H + 3 → Blk ((wx.setCell ⟨H + 2, 0, none⟩ v1).setCell ⟨H + 3, 0, none⟩ v2) k T xs := fun hb h1 h2 h3 => by
    have := hk _ h1 h2 h3
    unfold Blk at *
    rw [this]; exact hb
  have hs := h.size
  exact ⟨(hw.bel.trans (h.bel.mono (by omega))).setCell (by show H ≤ H + 2; omega) _ |>.setCell (by show H ≤ H + 3; omega) _, by simpa [World.setCell] using hs,
    key hw.bn (by omega) (by omega) (by omega), key hw.bsd (by omega) (by omega) (by omega), key hw.bok (by omega) (by omega) (by omega), key hw.bS (by omega) (by omega) (by omega), key hw.bse (by omega) (by omega) (by omega), key hw.bfr (by omega) (by omega) (by omega), hw.len,
    v1, v2, ((h1.below h.bel (by omega)).set 0 v1).other _ (by show H + 3 ≠ H + 2; omega), ((h2.below h.bel (by omega)).other _ (by show H + 2 ≠ H + 3; omega)).set 0 v2,
    h.two.keep fun k hk _ => (Below.heap_setCell _ _ _ _ (by show k ≠ H + 3; omega)).trans (Below.heap_setCell _ _ _ _ (by show k ≠ H + 2; omega))⟩

theorem set_comm2 (w : World) {a b : Addr} (h : a.block ≠ b.block) (u v : Value) : (w.setCell a u).setCell b v = (w.setCell b v).setCell a u := by
  have key : ∀ k : Nat, ((w.setCell a u).setCell b v).heap[k]? = ((w.setCell b v).setCell a u).heap[k]? := fun k => by
    simp only [World.setCell, Array.getElem?_modify]
    by_cases ha : k = a.block
    · subst ha
      simp [Ne.symm h]
    · by_cases hb : k = b.block
      · subst hb
        simp [h]
      · simp [Ne.symm ha, Ne.symm hb]
  have : ((w.setCell a u).setCell b v).heap = ((w.setCell b v).setCell a u).heap := Array.ext_getElem? key
  simp only [World.setCell] at this ⊢
  rw [this]

theorem Mid.fin' (h : Mid (H + 8) w wx v1 v2 c1 c2 fs) (hw : WS H n sd w0 w ok os ds bs) : WS H n sd w0 ((wx.setCell ⟨H + 3, 0, none⟩ v2).setCell ⟨H + 2, 0, none⟩ v1) ok c1 c2 bs := by
  rw [set_comm2 _ (by show H + 3 ≠ H + 2; omega)]
  exact h.fin hw
end
end Go.Proofs.Ytmeooadgdagiiaa.W
