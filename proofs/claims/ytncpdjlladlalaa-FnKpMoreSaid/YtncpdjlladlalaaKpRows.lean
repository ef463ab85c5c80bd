/- The memory of the rows of numbers that the thin package's Kept functions hand back. Conditions: none. -/
import Derived.Test.YtncpdjlladlalaaRows
import Derived.Test.YtncpdjlladlalaaKpMem
import Derived.Test.YtncpdjlladlalaaEach
namespace Go.Proofs.Ytncpdjlladlalaa
open Go.RowKit Lox
set_option linter.unusedVariables false

theorem own_ge3 {w : World} {B : Nat} {e : TypeId} {size : Nat} {v : Value} {n : Nat} {xs : List Value} {k : Nat} (h : w.ownsRow B e size v n xs) (hk : v.ownBlock = some k) : B ≤ k ∧ k < w.heap.size := by
  rcases h.2 with ⟨rfl, _⟩ | ⟨g, cap, cur, rfl, hb, hg, _⟩
  · simp [Value.ownBlock] at hk
  · simp only [Value.ownBlock, Option.some.injEq] at hk
    subst hk
    exact ⟨hb, (Array.getElem?_eq_some_iff.1 hg).1⟩

theorem sl_keep3 {A : Option Addr} {n : Nat} {xs : List Value} {w w' : World} (h : Sl w A n 1 xs) (hk : ∀ b o, A = some ⟨b, o, none⟩ → b < w.heap.size → w'.heap[b]? = w.heap[b]?) : Sl w' A n 1 xs := by
  refine ⟨h.1, fun h0 => ?_⟩
  obtain ⟨b, o, e, hc⟩ := h.2 h0
  exact ⟨b, o, e, fun j v hv => (World.cell?_of_block (hk b o e (lt_of_cell (hc j v hv)))).trans (hc j v hv)⟩

/-- Rows of numbers, each in memory of its own. -/
def PtsR (B : Nat) (w : World) (v1 : Value) (gs : List Value) (ls : List (List Nat)) : Prop :=
  gs.length = ls.length ∧ ∀ (i : Nat) (v : Value) (xs : List Nat), gs[i]? = some v → ls[i]? = some xs → ∃ A n c, v = .slice A n c ∧ n ≤ 1099511627776 ∧ Sl w A n 1 (flts xs) ∧ ∀ b o, A = some ⟨b, o, none⟩ → (B ≤ b ∧ b < w.heap.size) ∧ v1.ownBlock ≠ some b

/-- The variable in block H holds these rows, all of them made from block B on. -/
structure RW (H B : Nat) (w0 w : World) (ls : List (List Nat)) : Prop where
  mod : Mod (fun _ => False) w0 w
  low : w0.heap.size ≤ H
  mid : H < B
  size : B ≤ w.heap.size
  rows : ∃ v1 gs, Blk w H 32 [v1] ∧ w.ownsRow B 27 1 v1 ls.length gs ∧ PtsR B w v1 gs ls

section
variable {H B : Nat} {w0 w w1 w3 : World} {ls : List (List Nat)}

theorem RW.drew (h : RW H B w0 w ls) : RW H B w0 w.drew ls := ⟨h.mod.drew, h.low, h.mid, h.size, h.rows⟩
theorem RW.drewN (h : RW H B w0 w ls) (n : Nat) : RW H B w0 (w.drewN n) ls := ⟨h.mod.trans (mod_drewN _ _ _), h.low, h.mid, h.size, h.rows⟩

/-- What turns other blocks below B, ahead of which there was nothing of w0's, leaves the rows alone. -/
theorem RW.step {S : Nat → Prop} (h : RW H B w0 w ls) (hm : Mod S w w1) (hs : ∀ k, S k → H < k ∧ k < B) : RW H B w0 w1 ls := by
  obtain ⟨v1, gs, b1, o1, hp⟩ := h.rows
  have hl := h.low
  refine ⟨h.mod.trans' hm (fun i hi h2 => by have := hs i h2; omega), hl, h.mid, Nat.le_trans h.size hm.size, v1, gs, b1.mod hm (fun h2 => by have := hs H h2; omega),
    owns_keep o1 (fun k hk hk2 => hm.block k hk2 (fun h2 => by have := hs k h2; omega)), hp.1, fun i v xs hv hx => ?_⟩
  obtain ⟨A, n, c, e, hn, hsl, hA⟩ := hp.2 i v xs hv hx
  exact ⟨A, n, c, e, hn, sl_keep3 hsl (fun b o e2 hb => hm.block b hb (fun h2 => by have := hs b h2; have := (hA b o e2).1.1; omega)), fun b o e2 => ⟨⟨(hA b o e2).1.1, by have := (hA b o e2).1.2; have := hm.size; omega⟩, (hA b o e2).2⟩⟩

theorem RW.push (h : RW H B w0 w ls) {v1 : Value} {gs : List Value} (b1 : Blk w H 32 [v1]) (o1 : w.ownsRow B 27 1 v1 ls.length gs) (hp : PtsR B w v1 gs ls)
    {A : Option Addr} {m c : Nat} {xs : List Nat} {o : Obj} {g cap : Nat} (hm : Mod (fun _ => False) w w1) (hs : Sl w1 A m 1 (flts xs)) (hA : ∀ b o, A = some ⟨b, o, none⟩ → w.heap.size ≤ b ∧ b < w1.heap.size) (hml : m ≤ 1099511627776)
    (hown : w3.ownsRow B 27 1 (.slice (some ⟨g, 0, none⟩) (ls.length + 1) cap) (ls.length + 1) (gs ++ [.slice A m c])) (hg : (w1.alloc o).grownBy w3 v1.ownBlock) (hat : v1.ownBlock = some g ∨ g = w1.heap.size + 1) :
    RW H B w0 (w3.setCell ⟨H, 0, none⟩ (.slice (some ⟨g, 0, none⟩) (ls.length + 1) cap)) (ls ++ [xs]) ∧
      ∀ k, k < B → k ≠ H → (w3.setCell ⟨H, 0, none⟩ (.slice (some ⟨g, 0, none⟩) (ls.length + 1) cap)).heap[k]? = w.heap[k]? := by
  have hlow := h.low
  have hmid := h.mid
  have hBw := h.size
  have hms := hm.size
  have hal : (w1.alloc o).heap.size = w1.heap.size + 1 := World.size_alloc _ _
  have hgs := hg.size
  have keep : ∀ k, k < w.heap.size → k ≠ H → v1.ownBlock ≠ some k → (w3.setCell ⟨H, 0, none⟩ (.slice (some ⟨g, 0, none⟩) (ls.length + 1) cap)).heap[k]? = w.heap[k]? := fun k hk h1 h2 =>
    (Below.heap_setCell _ _ _ _ h1).trans ((hg.block k (by omega) (fun e => h2 e.symm)).trans ((Below.heap_alloc _ _ _ (by omega)).trans (hm.block k hk (fun h => h))))
  have n1 : v1.ownBlock ≠ some H := fun e => by have := (own_ge3 o1 e).1; omega
  refine ⟨⟨⟨?_, ?_, ?_, ?_, fun k hk hn => ?_⟩, hlow, hmid, ?_, .slice (some ⟨g, 0, none⟩) (ls.length + 1) cap, gs ++ [.slice A m c], ?_, ?_, ⟨by simp [hp.1], fun i v ys hv hy => ?_⟩⟩, fun k hk hne => keep k (by omega) hne (fun e => by have := (own_ge3 o1 e).1; omega)⟩
  · exact (hg.os.trans hm.os).trans h.mod.os
  · exact (hg.tape.trans hm.tape).trans h.mod.tape
  · exact (hg.output.trans hm.output).trans h.mod.output
  · have := h.mod.size; simp [World.setCell]; omega
  · have := h.mod.size
    exact (keep k (by omega) (by omega) (fun e => by have := (own_ge3 o1 e).1; omega)).trans (h.mod.block k hk hn)
  · simp [World.setCell]; omega
  · have hb : Blk w3 H 32 [v1] := ((b1.mod hm (fun h => h)).alloc o).grown hg (fun e => n1 e.symm)
    exact hb.set 0 _
  · rw [List.length_append]
    exact owns_keep hown fun k hk _ => Below.heap_setCell _ _ _ _ (by show k ≠ H; omega)
  · rcases Nat.lt_or_ge i gs.length with hi | hi
    · rw [List.getElem?_append_left hi] at hv
      rw [List.getElem?_append_left (by rw [← hp.1]; exact hi)] at hy
      obtain ⟨A', n', c', e, hn', hs', hA'⟩ := hp.2 i v ys hv hy
      refine ⟨A', n', c', e, hn', sl_keep3 hs' fun b o e hb => keep b hb (by have := (hA' b o e).1.1; omega) (hA' b o e).2, fun b o e => ⟨⟨(hA' b o e).1.1, by have := (hA' b o e).1.2; simp [World.setCell]; omega⟩, fun e2 => ?_⟩⟩
      simp only [Value.ownBlock, Option.some.injEq] at e2
      subst e2
      rcases hat with hat | hat
      · exact (hA' _ o e).2 hat
      · have := (hA' _ o e).1.2; omega
    · rw [List.getElem?_append_right hi] at hv
      rw [List.getElem?_append_right (by rw [← hp.1]; exact hi)] at hy
      have h0 : i - gs.length = 0 := by
        rcases Nat.eq_zero_or_pos (i - gs.length) with h0 | h0
        · exact h0
        · rw [List.getElem?_eq_none (by simp; omega)] at hv; cases hv
      rw [h0] at hv
      rw [← hp.1, h0] at hy
      simp at hv hy
      subst hv hy
      refine ⟨A, m, c, rfl, hml, sl_keep3 hs fun b o e hb => (Below.heap_setCell _ _ _ _ (by have := (hA b o e).1; show b ≠ H; omega)).trans ((hg.block b (by omega) (fun e2 => by have := (own_ge3 o1 e2.symm).2; have := (hA b o e).1; omega)).trans (Below.heap_alloc _ _ _ hb)), fun b o e => ⟨⟨by have := (hA b o e).1; omega, by have := (hA b o e).2; simp [World.setCell]; omega⟩, fun e2 => ?_⟩⟩
      simp only [Value.ownBlock, Option.some.injEq] at e2
      subst e2
      rcases hat with hat | hat
      · have := (own_ge3 o1 hat).2; have := (hA _ o e).1; omega
      · have := (hA _ o e).2; omega

theorem KS.blocks {NK CD PT : TypeId} {w w' : World} {kb hb len cap : Nat} {els : List El} (h : KS NK CD PT w kb hb len cap els) (h1 : w'.heap[kb]? = w.heap[kb]?) (h2 : w'.heap[hb]? = w.heap[hb]?) : KS NK CD PT w' kb hb len cap els := by
  obtain ⟨vs, sp, b1, b2, rest⟩ := h
  refine ⟨vs, sp, ?_, ?_, rest⟩
  · unfold Blk at *; rw [h1]; exact b1
  · unfold Blk at *; rw [h2]; exact b2
end
end Go.Proofs.Ytncpdjlladlalaa
