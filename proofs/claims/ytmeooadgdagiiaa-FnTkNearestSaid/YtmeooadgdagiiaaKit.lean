/- General lemmas on memory blocks and frames, used by the walks of this seat: nothing of the program in sight. Conditions: none. -/
import Derived.WalkKit
import Derived.WalkSpells
import Derived.WalkLawsBesides
import Derived.BigRegion
import Derived.BigQuiet
import Derived.Lib.Hide
namespace Lox
open Go Go.RowKit

/-- Block b holds just these cells, and may be written. -/
def Blk (w : World) (b : Nat) (T : TypeId) (xs : List Value) : Prop := w.heap[b]? = some (.cells xs.toArray T (0, 0))

/-- From w to w' only blocks of S, and new ones, may have turned. -/
structure Mod (S : Nat → Prop) (w w' : World) : Prop where
  os : w'.os = w.os
  tape : w'.tape = w.tape
  output : w'.output = w.output
  size : w.heap.size ≤ w'.heap.size
  block : ∀ k, k < w.heap.size → ¬ S k → w'.heap[k]? = w.heap[k]?

theorem lt_of_cell {w : World} {a : Addr} {v : Value} (h : w.cell? a = some v) : a.block < w.heap.size := by
  unfold World.cell? at h
  rcases Nat.lt_or_ge a.block w.heap.size with h1 | h1
  · exact h1
  · rw [Array.getElem?_eq_none h1] at h; cases h

section Blk
variable {w : World} {b : Nat} {T : TypeId} {xs : List Value}

theorem Blk.lt (h : Blk w b T xs) : b < w.heap.size := (Array.getElem?_eq_some_iff.1 h).1

theorem Blk.cell (h : Blk w b T xs) (i : Nat) : w.cell? ⟨b, i, none⟩ = xs[i]? := by
  unfold Blk at h
  simp [World.cell?, h]

theorem Blk.at {i : Nat} {v : Value} (h : Blk w b T xs) (hv : xs[i]? = some v) : w.cell? ⟨b, i, none⟩ = some v := by rw [h.cell, hv]

theorem Blk.frozen (h : Blk w b T xs) (i : Nat) : w.frozen? ⟨b, i, none⟩ = false := by
  unfold Blk at h
  simp [World.frozen?, h]

theorem Blk.shape (h : Blk w b T xs) : w.shape? b = some (T, xs.length) := by
  unfold Blk at h
  simp [World.shape?, h]

theorem Blk.set (h : Blk w b T xs) (i : Nat) (v : Value) : Blk (w.setCell ⟨b, i, none⟩ v) b T (xs.set i v) := by
  unfold Blk at *
  simp [World.setCell, Array.getElem?_modify, h]

theorem Blk.other (h : Blk w b T xs) {a : Addr} (v : Value) (hne : a.block ≠ b) : Blk (w.setCell a v) b T xs := by
  unfold Blk at *
  rw [Below.heap_setCell _ _ _ _ (Ne.symm hne)]; exact h

theorem Blk.alloc (h : Blk w b T xs) (o : Obj) : Blk (w.alloc o) b T xs := by
  have := h.lt
  unfold Blk at *
  rw [Below.heap_alloc _ _ _ this]; exact h

theorem Blk.new (w : World) (xs : List Value) (T : TypeId) : Blk (w.alloc (.cells xs.toArray T)) w.heap.size T xs := by
  unfold Blk World.alloc
  simp

theorem Blk.new' (w : World) (c : Array Value) (T : TypeId) : Blk (w.alloc (.cells c T)) w.heap.size T c.toList := by
  unfold Blk World.alloc
  simp

theorem Blk.drew (h : Blk w b T xs) : Blk w.drew b T xs := h

theorem Blk.mod {w' : World} {S : Nat → Prop} (h : Blk w b T xs) (hm : Mod S w w') (hs : ¬ S b) : Blk w' b T xs := by
  have := hm.block b h.lt hs
  unfold Blk at *
  rw [this, h]

theorem Blk.below {w' : World} {B : Nat} (h : Blk w b T xs) (hm : Below B w w') (hs : b < B) : Blk w' b T xs := by
  have := hm.block b hs
  unfold Blk at *
  rw [this, h]

theorem Blk.grown {w' : World} {row : Option Nat} (h : Blk w b T xs) (hm : w.grownBy w' row) (hs : some b ≠ row) : Blk w' b T xs := by
  have := hm.block b h.lt hs
  unfold Blk at *
  rw [this, h]
end Blk

section Mod
variable {S S' : Nat → Prop} {a b c w w' : World}

theorem Mod.refl (S : Nat → Prop) (w : World) : Mod S w w := ⟨rfl, rfl, rfl, Nat.le_refl _, fun _ _ _ => rfl⟩

theorem Mod.trans (h : Mod S a b) (k : Mod S b c) : Mod S a c :=
  ⟨k.os.trans h.os, k.tape.trans h.tape, k.output.trans h.output, Nat.le_trans h.size k.size,
    fun i hi hs => (k.block i (Nat.lt_of_lt_of_le hi h.size) hs).trans (h.block i hi hs)⟩

theorem Mod.trans' (h : Mod S a b) (k : Mod S' b c) (hs : ∀ i, i < a.heap.size → S' i → S i) : Mod S a c :=
  ⟨k.os.trans h.os, k.tape.trans h.tape, k.output.trans h.output, Nat.le_trans h.size k.size,
    fun i hi hn => (k.block i (Nat.lt_of_lt_of_le hi h.size) (fun h' => hn (hs i hi h'))).trans (h.block i hi hn)⟩

theorem Mod.mono (h : Mod S a b) (hs : ∀ i, i < a.heap.size → S i → S' i) : Mod S' a b :=
  ⟨h.os, h.tape, h.output, h.size, fun i hi hn => h.block i hi (fun h' => hn (hs i hi h'))⟩

theorem Mod.alloc (h : Mod S a w) (o : Obj) : Mod S a (w.alloc o) :=
  h.trans ⟨rfl, rfl, rfl, by simp, fun k hk _ => Below.heap_alloc _ _ _ hk⟩

theorem Mod.drew (h : Mod S a w) : Mod S a w.drew := ⟨h.os, h.tape, h.output, h.size, h.block⟩

theorem Mod.set (h : Mod S a w) {p : Addr} (hp : S p.block ∨ a.heap.size ≤ p.block) (v : Value) : Mod S a (w.setCell p v) := by
  refine ⟨h.os, h.tape, h.output, by simpa [World.setCell] using h.size, fun k hk hn => ?_⟩
  rw [Below.heap_setCell _ _ _ _ (by rintro rfl; rcases hp with hp | hp; exact hn hp; omega)]
  exact h.block k hk hn

theorem Mod.grown {row : Option Nat} (h : Mod S a w) (hg : w.grownBy w' row) (hr : ∀ k, row = some k → k < a.heap.size → S k) : Mod S a w' :=
  ⟨hg.os.trans h.os, hg.tape.trans h.tape, hg.output.trans h.output, Nat.le_trans h.size hg.size,
    fun k hk hn => (hg.block k (Nat.lt_of_lt_of_le hk h.size) (fun e => hn (hr k e.symm hk))).trans (h.block k hk hn)⟩

theorem Mod.toBelow (h : Mod (fun _ => False) w w') : Below w.heap.size w w' := ⟨h.os, h.tape, h.output, h.size, fun k hk => h.block k hk (fun h => h)⟩

theorem Mod.ofBelow (h : Below w.heap.size w w') : Mod (fun _ => False) w w' := ⟨h.os, h.tape, h.output, h.size, fun k hk _ => h.block k hk⟩

theorem Mod.cell (h : Mod S w w') {p : Addr} (hp : p.block < w.heap.size) (hs : ¬ S p.block) : w'.cell? p = w.cell? p :=
  World.cell?_of_block (w := w) (h.block p.block hp hs)

theorem Mod.frozen (h : Mod S w w') {p : Addr} (hp : p.block < w.heap.size) (hs : ¬ S p.block) : w'.frozen? p = w.frozen? p :=
  World.frozen?_of_block (w := w) (h.block p.block hp hs)
end Mod

/-- Numbers as cells. -/
def ints (xs : List Int) : List Value := xs.map (Value.int .i64)

theorem ints_at {xs : List Int} {i : Nat} {x : Int} (h : xs[i]? = some x) : (ints xs)[i]? = some (.int .i64 x) := by simp [ints, h]

theorem ints_set (xs : List Int) (i : Nat) (x : Int) : (ints xs).set i (.int .i64 x) = ints (xs.set i x) := by simp [ints, List.map_set]

end Lox
