/- The memory of the rows that KKeptIn hands back, of which the last one is known. Conditions: none. -/
import Derived.Test.YtncpdjlladlalaaKdMem
import Derived.Test.YtncpdjlladlalaaKpRows
namespace Go.Proofs.Ytncpdjlladlalaa.D
open Go.RowKit Lox
set_option linter.unusedVariables false

/-- A row of numbers behind block B. -/
def RowAt (B : Nat) (w : World) (v : Value) (xs : List Nat) : Prop := ∃ A n c, v = .slice A n c ∧ n ≤ 1099511627776 ∧ Sl w A n 1 (flts xs) ∧ ∀ b o, A = some ⟨b, o, none⟩ → B ≤ b

/-- The variable in block H holds k rows in a block of its own, not hb; the last one is known. -/
structure RL (H : Nat) (w0 w : World) (k : Nat) (last : List Nat) (hb : Nat) : Prop where
  mod : Mod (fun _ => False) w0 w
  low : w0.heap.size ≤ H
  size : H + 4 ≤ w.heap.size
  rows : ∃ v1 gs, Blk w H 32 [v1] ∧ w.ownsRow (H + 4) 27 1 v1 k gs ∧ v1.ownBlock ≠ some hb ∧ (0 < k → ∃ v, gs[k - 1]? = some v ∧ RowAt (H + 4) w v last)

/-- The same without the last row. -/
structure RL0 (H : Nat) (w0 w : World) (k : Nat) (v1 : Value) (gs : List Value) (hb : Nat) : Prop where
  mod : Mod (fun _ => False) w0 w
  low : w0.heap.size ≤ H
  size : H + 4 ≤ w.heap.size
  blk : Blk w H 32 [v1]
  own : w.ownsRow (H + 4) 27 1 v1 k gs
  ne : v1.ownBlock ≠ some hb

variable {H k hb hb2 : Nat} {w0 w w1 w3 : World} {last : List Nat} {v1 : Value} {gs : List Value}

theorem RL.keep (h : RL H w0 w k last hb) (hh : H + 2 ≤ hb) (hm : Mod (fun k => k = hb ∨ k = H + 2 + 1) w w1) (h2 : hb2 = hb ∨ w.heap.size ≤ hb2) : ∃ v1 gs, RL0 H w0 w1 k v1 gs hb2 := by
  obtain ⟨v1, gs, b1, o1, hne, -⟩ := h.rows
  have hl := h.low
  refine ⟨v1, gs, h.mod.trans' hm (fun i hi h2 => by omega), hl, Nat.le_trans h.size hm.size, b1.mod hm (by omega), ?_, fun e => ?_⟩
  · refine ⟨o1.1, ?_⟩
    rcases o1.2 with h0 | ⟨g, cap, cur, e1, hb0, hg, rest⟩
    · exact .inl h0
    · refine .inr ⟨g, cap, cur, e1, hb0, (hm.block g (Array.getElem?_eq_some_iff.1 hg).1 (fun hx => ?_)).trans hg, rest⟩
      rcases hx with rfl | hx
      · exact hne (by rw [e1]; rfl)
      · omega
  · rcases h2 with rfl | h2
    · exact hne e
    · have := (own_ge3 o1 e).2
      omega

theorem RL0.push (h : RL0 H w0 w k v1 gs hb) {A : Option Addr} {m c : Nat} {xs : List Nat} {o : Obj} {g cap : Nat} (hm : Mod (fun _ => False) w w1) (hs : Sl w1 A m 1 (flts xs)) (hA : ∀ b o, A = some ⟨b, o, none⟩ → w.heap.size ≤ b ∧ b < w1.heap.size) (hml : m ≤ 1099511627776) (hbw : hb < w.heap.size)
    (hown : w3.ownsRow (H + 4) 27 1 (.slice (some ⟨g, 0, none⟩) (k + 1) cap) (k + 1) (gs ++ [.slice A m c])) (hg : (w1.alloc o).grownBy w3 v1.ownBlock) (hat : v1.ownBlock = some g ∨ g = w1.heap.size + 1) :
    RL H w0 (w3.setCell ⟨H, 0, none⟩ (.slice (some ⟨g, 0, none⟩) (k + 1) cap)) (k + 1) xs hb ∧
      ∀ i, i < w.heap.size → i ≠ H → v1.ownBlock ≠ some i → (w3.setCell ⟨H, 0, none⟩ (.slice (some ⟨g, 0, none⟩) (k + 1) cap)).heap[i]? = w.heap[i]? := by
  have hlow := h.low
  have hBw := h.size
  have hms := hm.size
  have o1 := h.own
  have hal : (w1.alloc o).heap.size = w1.heap.size + 1 := World.size_alloc _ _
  have hgs := hg.size
  have keep : ∀ i, i < w.heap.size → i ≠ H → v1.ownBlock ≠ some i → (w3.setCell ⟨H, 0, none⟩ (.slice (some ⟨g, 0, none⟩) (k + 1) cap)).heap[i]? = w.heap[i]? := fun i hk h1 h2 =>
    (Below.heap_setCell _ _ _ _ h1).trans ((hg.block i (by omega) (fun e => h2 e.symm)).trans ((Below.heap_alloc _ _ _ (by omega)).trans (hm.block i hk (fun h => h))))
  have n1 : v1.ownBlock ≠ some H := fun e => by have := (own_ge3 o1 e).1; omega
  have hgl : gs.length = k := by have := o1.1; omega
  refine ⟨⟨⟨?_, ?_, ?_, ?_, fun i hk hn => ?_⟩, hlow, ?_, .slice (some ⟨g, 0, none⟩) (k + 1) cap, gs ++ [.slice A m c], ?_, ?_, fun e => ?_, fun _ => ⟨.slice A m c, ?_, A, m, c, rfl, hml, ?_, fun b o e => ?_⟩⟩, keep⟩
  · exact (hg.os.trans hm.os).trans h.mod.os
  · exact (hg.tape.trans hm.tape).trans h.mod.tape
  · exact (hg.output.trans hm.output).trans h.mod.output
  · have := h.mod.size; simp [World.setCell]; omega
  · have := h.mod.size
    exact (keep i (by omega) (by omega) (fun e => by have := (own_ge3 o1 e).1; omega)).trans (h.mod.block i hk hn)
  · simp [World.setCell]; omega
  · have hb : Blk w3 H 32 [v1] := ((h.blk.mod hm (fun h => h)).alloc o).grown hg (fun e => n1 e.symm)
    exact hb.set 0 _
  · exact owns_keep hown fun k hk _ => Below.heap_setCell _ _ _ _ (by show k ≠ H; omega)
  · simp only [Value.ownBlock, Option.some.injEq] at e
    rcases hat with hat | hat
    · exact h.ne (by rw [hat, e])
    · omega
  · rw [Nat.add_sub_cancel, List.getElem?_append_right (by omega), hgl, Nat.sub_self]
    rfl
  · exact sl_keep3 hs fun b o e hb => (Below.heap_setCell _ _ _ _ (by have := (hA b o e).1; show b ≠ H; omega)).trans ((hg.block b (by omega) (fun e2 => by have := (own_ge3 o1 e2.symm).2; have := (hA b o e).1; omega)).trans (Below.heap_alloc _ _ _ hb))
  · have := (hA b o e).1
    omega

theorem kd_blocks {S : Nat} {NK CD PT : TypeId} {w w' : World} {kb hb len cap : Nat} {els : List El} (h : KD S NK CD PT w kb hb len cap els) (h1 : w'.heap[kb]? = w.heap[kb]?) (h2 : w'.heap[hb]? = w.heap[hb]?) : KD S NK CD PT w' kb hb len cap els := by
  obtain ⟨vs, sp, b1, b2, rest⟩ := h
  refine ⟨vs, sp, ?_, ?_, rest⟩
  · unfold Blk at *; rw [h1]; exact b1
  · unfold Blk at *; rw [h2]; exact b2
end Go.Proofs.Ytncpdjlladlalaa.D
