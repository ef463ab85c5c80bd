/- The memory of the walk's operation: the points and the depths that it has been told. Conditions: none. -/
import Derived.Test.YtncpdjlladlalaaTkTree
namespace Go.Proofs.Ytncpdjlladlalaa
open Go.RowKit Lox
set_option linter.unusedVariables false

/-- The points of a list, each in memory of its own. -/
def Pts (B : Nat) (w : World) (v1 v2 : Value) (gs : List Value) (ls : List (List Nat)) : Prop :=
  gs.length = ls.length ∧ ∀ (i : Nat) (v : Value) (xs : List Nat), gs[i]? = some v → ls[i]? = some xs → ∃ A n c, v = .slice A n c ∧ n ≤ 1099511627776 ∧ Sl w A n 1 (flts xs) ∧ ∀ b o, A = some ⟨b, o, none⟩ → (B ≤ b ∧ b < w.heap.size) ∧ v1.ownBlock ≠ some b ∧ v2.ownBlock ≠ some b

/-- The memory: wB is the world where the walk began, H where the variables lie. -/
structure DW (H : Nat) (wB w : World) (ls : List (List Nat)) (ds : List Int) : Prop where
  mod : Mod (fun k => k = H + 1 ∨ k = H + 2) wB w
  low : H + 3 ≤ wB.heap.size
  rows : ∃ v1 v2 gs, Blk w (H + 1) 32 [v1] ∧ Blk w (H + 2) 24 [v2] ∧ w.ownsRow wB.heap.size 27 1 v1 ls.length gs ∧ w.ownsRow wB.heap.size 3 1 v2 ds.length (ints ds) ∧
    Pts wB.heap.size w v1 v2 gs ls ∧ ∀ k, v1.ownBlock = some k → v2.ownBlock ≠ some k

theorem own_ge' {w : World} {B : Nat} {e : TypeId} {size : Nat} {v : Value} {n : Nat} {xs : List Value} {k : Nat} (h : w.ownsRow B e size v n xs) (hk : v.ownBlock = some k) : B ≤ k ∧ k < w.heap.size := by
  rcases h.2 with ⟨rfl, _⟩ | ⟨g, cap, cur, rfl, hb, hg, _⟩
  · simp [Value.ownBlock] at hk
  · simp only [Value.ownBlock, Option.some.injEq] at hk
    subst hk
    exact ⟨hb, (Array.getElem?_eq_some_iff.1 hg).1⟩

section
variable {H : Nat} {wB w w1 w3 : World} {ls : List (List Nat)} {ds : List Int}

theorem sl_keep2 {A : Option Addr} {n : Nat} {xs : List Value} {w w' : World} (h : Sl w A n 1 xs) (hk : ∀ b o, A = some ⟨b, o, none⟩ → b < w.heap.size → w'.heap[b]? = w.heap[b]?) : Sl w' A n 1 xs := by
  refine ⟨h.1, fun h0 => ?_⟩
  obtain ⟨b, o, e, hc⟩ := h.2 h0
  exact ⟨b, o, e, fun j v hv => (World.cell?_of_block (hk b o e (lt_of_cell (hc j v hv)))).trans (hc j v hv)⟩

theorem DW.push1 (h : DW H wB w ls ds) {v1 v2 : Value} {gs : List Value} (b1 : Blk w (H + 1) 32 [v1]) (b2 : Blk w (H + 2) 24 [v2]) (o1 : w.ownsRow wB.heap.size 27 1 v1 ls.length gs) (o2 : w.ownsRow wB.heap.size 3 1 v2 ds.length (ints ds))
    (hp : Pts wB.heap.size w v1 v2 gs ls) (hne : ∀ k, v1.ownBlock = some k → v2.ownBlock ≠ some k) {A : Option Addr} {m c : Nat} {xs : List Nat} {o : Obj} {g cap : Nat} (hm : Mod (fun _ => False) w w1) (hs : Sl w1 A m 1 (flts xs)) (hA : ∀ b o, A = some ⟨b, o, none⟩ → w.heap.size ≤ b ∧ b < w1.heap.size) (hml : m ≤ 1099511627776)
    (hown : w3.ownsRow wB.heap.size 27 1 (.slice (some ⟨g, 0, none⟩) (ls.length + 1) cap) (ls.length + 1) (gs ++ [.slice A m c])) (hg : (w1.alloc o).grownBy w3 v1.ownBlock) (hat : v1.ownBlock = some g ∨ g = w1.heap.size + 1) :
    DW H wB (w3.setCell ⟨H + 1, 0, none⟩ (.slice (some ⟨g, 0, none⟩) (ls.length + 1) cap)) (ls ++ [xs]) ds := by
  have hlow := h.low
  have hBw := h.mod.size
  have hs1 := hm.size
  have hal : (w1.alloc o).heap.size = w1.heap.size + 1 := World.size_alloc _ _
  have hgs := hg.size
  have hg2 : v2.ownBlock ≠ some g := fun e => by
    rcases hat with hat | hat
    · exact hne g hat e
    · have := (own_ge' o2 e).2; omega
  have keep : ∀ k, k < w.heap.size → k ≠ H + 1 → v1.ownBlock ≠ some k → (w3.setCell ⟨H + 1, 0, none⟩ (.slice (some ⟨g, 0, none⟩) (ls.length + 1) cap)).heap[k]? = w.heap[k]? := fun k hk h1 h2 =>
    (Below.heap_setCell _ _ _ _ h1).trans ((hg.block k (by omega) (fun e => h2 e.symm)).trans ((Below.heap_alloc _ _ _ (by omega)).trans (hm.block k hk (fun h => h))))
  have n1 : v1.ownBlock ≠ some (H + 1) := fun e => by have := (own_ge' o1 e).1; omega
  have n2 : v1.ownBlock ≠ some (H + 2) := fun e => by have := (own_ge' o1 e).1; omega
  refine ⟨⟨?_, ?_, ?_, ?_, fun k hk hn => ?_⟩, hlow, .slice (some ⟨g, 0, none⟩) (ls.length + 1) cap, v2, gs ++ [.slice A m c], ?_, ?_, ?_, ?_, ⟨by simp [hp.1], fun i v ys hv hy => ?_⟩, fun k hk => ?_⟩
  · exact (hg.os.trans hm.os).trans h.mod.os
  · exact (hg.tape.trans hm.tape).trans h.mod.tape
  · exact (hg.output.trans hm.output).trans h.mod.output
  · simp [World.setCell]; omega
  · exact (keep k (by omega) (fun e => hn (.inl e)) (fun e => by have := (own_ge' o1 e).1; omega)).trans (h.mod.block k hk hn)
  · have hb : Blk w3 (H + 1) 32 [v1] := ((b1.mod hm (fun h => h)).alloc o).grown hg (fun e => n1 e.symm)
    exact hb.set 0 _
  · have hb : Blk w3 (H + 2) 24 [v2] := ((b2.mod hm (fun h => h)).alloc o).grown hg (fun e => n2 e.symm)
    exact hb.other _ (by show H + 1 ≠ H + 2; omega)
  · rw [List.length_append]
    exact owns_keep hown fun k hk _ => Below.heap_setCell _ _ _ _ (by show k ≠ H + 1; omega)
  · exact ⟨o2.1, o2.2.imp (fun h => h) fun ⟨g', cap', cur, e, hb, hgg, rest⟩ => ⟨g', cap', cur, e, hb, by
      rw [keep g' (Array.getElem?_eq_some_iff.1 hgg).1 (by omega) (fun e' => hne g' e' (by rw [e]; rfl))]; exact hgg, rest⟩⟩
  · rcases Nat.lt_or_ge i gs.length with hi | hi
    · rw [List.getElem?_append_left hi] at hv
      rw [List.getElem?_append_left (by rw [← hp.1]; exact hi)] at hy
      obtain ⟨A', n', c', e, hn', hs', hA'⟩ := hp.2 i v ys hv hy
      refine ⟨A', n', c', e, hn', sl_keep2 hs' fun b o e hb => keep b hb (by have := (hA' b o e).1.1; omega) (hA' b o e).2.1, fun b o e => ⟨⟨(hA' b o e).1.1, by have := (hA' b o e).1.2; simp [World.setCell]; omega⟩, fun e2 => ?_, (hA' b o e).2.2⟩⟩
      simp only [Value.ownBlock, Option.some.injEq] at e2
      subst e2
      rcases hat with hat | hat
      · exact (hA' _ o e).2.1 hat
      · have := (hA' _ o e).1.2; omega
    · rw [List.getElem?_append_right hi] at hv
      rw [List.getElem?_append_right (by rw [← hp.1]; exact hi)] at hy
      have h0 : i - gs.length = 0 := by
        rcases Nat.eq_zero_or_pos (i - gs.length) with h0 | h0
        · exact h0
        · rw [List.getElem?_eq_none (by simp; omega)] at hv; cases hv
      rw [h0] at hv
      rw [← hp.1, h0] at hy
      simp at hv hy
      subst hv hy
      refine ⟨A, m, c, rfl, hml, sl_keep2 hs fun b o e hb => (Below.heap_setCell _ _ _ _ (by have := (hA b o e).1; show b ≠ H + 1; omega)).trans ((hg.block b (by omega) (fun e2 => by have := (own_ge' o1 e2.symm).2; have := (hA b o e).1; omega)).trans (Below.heap_alloc _ _ _ hb)), fun b o e => ⟨⟨by have := (hA b o e).1; omega, by have := (hA b o e).2; simp [World.setCell]; omega⟩, fun e2 => ?_, fun e2 => by have := (own_ge' o2 e2).2; have := (hA b o e).1; omega⟩⟩
      simp only [Value.ownBlock, Option.some.injEq] at e2
      subst e2
      rcases hat with hat | hat
      · have := (own_ge' o1 hat).2; have := (hA _ o e).1; omega
      · have := (hA _ o e).2; omega
  · simp only [Value.ownBlock, Option.some.injEq] at hk
    subst hk
    exact hg2

theorem DW.push2 (h : DW H wB w ls ds) {v1 v2 : Value} {gs : List Value} (b1 : Blk w (H + 1) 32 [v1]) (b2 : Blk w (H + 2) 24 [v2]) (o1 : w.ownsRow wB.heap.size 27 1 v1 ls.length gs) (o2 : w.ownsRow wB.heap.size 3 1 v2 ds.length (ints ds))
    (hp : Pts wB.heap.size w v1 v2 gs ls) (hne : ∀ k, v1.ownBlock = some k → v2.ownBlock ≠ some k) {x : Int} {o : Obj} {g cap : Nat}
    (hown : w3.ownsRow wB.heap.size 3 1 (.slice (some ⟨g, 0, none⟩) (ds.length + 1) cap) (ds.length + 1) (ints ds ++ [.int .i64 x])) (hg : (w.alloc o).grownBy w3 v2.ownBlock) (hat : v2.ownBlock = some g ∨ g = w.heap.size + 1) :
    DW H wB (w3.setCell ⟨H + 2, 0, none⟩ (.slice (some ⟨g, 0, none⟩) (ds.length + 1) cap)) ls (ds ++ [x]) := by
  have hlow := h.low
  have hBw := h.mod.size
  have hal : (w.alloc o).heap.size = w.heap.size + 1 := World.size_alloc _ _
  have hgs := hg.size
  have hg1 : v1.ownBlock ≠ some g := fun e => by
    rcases hat with hat | hat
    · exact hne g e hat
    · have := (own_ge' o1 e).2; omega
  have keep : ∀ k, k < w.heap.size → k ≠ H + 2 → v2.ownBlock ≠ some k → (w3.setCell ⟨H + 2, 0, none⟩ (.slice (some ⟨g, 0, none⟩) (ds.length + 1) cap)).heap[k]? = w.heap[k]? := fun k hk h1 h2 =>
    (Below.heap_setCell _ _ _ _ h1).trans ((hg.block k (by omega) (fun e => h2 e.symm)).trans (Below.heap_alloc _ _ _ (by omega)))
  have n1 : v2.ownBlock ≠ some (H + 1) := fun e => by have := (own_ge' o2 e).1; omega
  have n2 : v2.ownBlock ≠ some (H + 2) := fun e => by have := (own_ge' o2 e).1; omega
  refine ⟨⟨?_, ?_, ?_, ?_, fun k hk hn => ?_⟩, hlow, v1, .slice (some ⟨g, 0, none⟩) (ds.length + 1) cap, gs, ?_, ?_, ?_, ?_, ⟨hp.1, fun i v ys hv hy => ?_⟩, fun k hk hk2 => ?_⟩
  · exact hg.os.trans h.mod.os
  · exact hg.tape.trans h.mod.tape
  · exact hg.output.trans h.mod.output
  · simp [World.setCell]; omega
  · exact (keep k (by omega) (fun e => hn (.inr e)) (fun e => by have := (own_ge' o2 e).1; omega)).trans (h.mod.block k hk hn)
  · have hb : Blk w3 (H + 1) 32 [v1] := (b1.alloc o).grown hg (fun e => n1 e.symm)
    exact hb.other _ (by show H + 2 ≠ H + 1; omega)
  · have hb : Blk w3 (H + 2) 24 [v2] := (b2.alloc o).grown hg (fun e => n2 e.symm)
    exact hb.set 0 _
  · exact ⟨o1.1, o1.2.imp (fun h => h) fun ⟨g', cap', cur, e, hb, hgg, rest⟩ => ⟨g', cap', cur, e, hb, by
      rw [keep g' (Array.getElem?_eq_some_iff.1 hgg).1 (by omega) (fun e' => hne g' (by rw [e]; rfl) e')]; exact hgg, rest⟩⟩
  · rw [List.length_append]
    have := owns_keep (w' := w3.setCell ⟨H + 2, 0, none⟩ (.slice (some ⟨g, 0, none⟩) (ds.length + 1) cap)) hown fun k hk _ => Below.heap_setCell _ _ _ _ (by show k ≠ H + 2; omega)
    simpa [ints] using this
  · obtain ⟨A', n', c', e, hn', hs', hA'⟩ := hp.2 i v ys hv hy
    refine ⟨A', n', c', e, hn', sl_keep2 hs' fun b o e hb => keep b hb (by have := (hA' b o e).1.1; omega) (hA' b o e).2.2, fun b o e => ⟨⟨(hA' b o e).1.1, by have := (hA' b o e).1.2; simp [World.setCell]; omega⟩, (hA' b o e).2.1, fun e2 => ?_⟩⟩
    simp only [Value.ownBlock, Option.some.injEq] at e2
    subst e2
    rcases hat with hat | hat
    · exact (hA' _ o e).2.2 hat
    · have := (hA' _ o e).1.2; omega
  · simp only [Value.ownBlock, Option.some.injEq] at hk2
    subst hk2
    exact hg1 hk
end
end Go.Proofs.Ytncpdjlladlalaa
