/- Slices of rows of numbers, each row in a block of its own. Conditions: none. -/
import Derived.Test.YtmeooadgdagiiaaKit
namespace Lox
open Go Go.RowKit

theorem Mod.grownBy {w w' : World} (h : Mod (fun _ => False) w w') : w.grownBy w' none :=
  ⟨h.os, h.tape, h.output, h.size, fun k hk _ => h.block k hk (fun h => h)⟩

theorem owns_ne {w : World} {B : Nat} {e T : TypeId} {size : Nat} {v : Value} {n : Nat} {xs ys : List Value} {g : Nat}
    (h : w.ownsRow B e size v n xs) (hb : Blk w g T ys) (hne : T ≠ e) : v.ownBlock ≠ some g := by
  intro hv
  rcases h.2 with ⟨rfl, _⟩ | ⟨g', cap, cur, rfl, _, hg, _⟩
  · simp [Value.ownBlock] at hv
  · simp only [Value.ownBlock, Option.some.injEq] at hv
    subst hv
    unfold Blk at hb
    rw [hb] at hg
    simp at hg
    exact hne hg.2

theorem owns_keep {w w' : World} {B : Nat} {e : TypeId} {size : Nat} {v : Value} {n : Nat} {xs : List Value}
    (h : w.ownsRow B e size v n xs) (hk : ∀ k, B ≤ k → k < w.heap.size → w'.heap[k]? = w.heap[k]?) : w'.ownsRow B e size v n xs := by
  refine ⟨h.1, ?_⟩
  rcases h.2 with hn | ⟨g, cap, cur, rfl, hb, hgg, rest⟩
  · exact .inl hn
  · exact .inr ⟨g, cap, cur, rfl, hb, by rw [hk g hb (Array.getElem?_eq_some_iff.1 hgg).1]; exact hgg, rest⟩

theorem Blk.keep {w w' : World} {B b : Nat} {T : TypeId} {xs : List Value} (h : Blk w b T xs) (hB : B ≤ b)
    (hk : ∀ k, B ≤ k → k < w.heap.size → w'.heap[k]? = w.heap[k]?) : Blk w' b T xs := by
  have := hk b hB h.lt
  unfold Blk at *
  rw [this, h]

/-- Each of these blocks is a row of numbers of its own. -/
def Each (T : TypeId) (B : Nat) (w : World) (gs : List Nat) (ps : List (List Int)) : Prop :=
  gs.length = ps.length ∧ ∀ (i g : Nat) (p : List Int), (gs[i]? : Option Nat) = some g → (ps[i]? : Option (List Int)) = some p → B ≤ g ∧ Blk w g T (ints p)

theorem Each.nil (T : TypeId) (B : Nat) (w : World) : Each T B w [] [] := ⟨rfl, fun i g p h => by simp at h⟩

theorem Each.keep {T : TypeId} {B : Nat} {w w' : World} {gs : List Nat} {ps : List (List Int)} (h : Each T B w gs ps)
    (hk : ∀ k, B ≤ k → k < w.heap.size → w'.heap[k]? = w.heap[k]?) : Each T B w' gs ps :=
  ⟨h.1, fun i g p hg hp => ⟨(h.2 i g p hg hp).1, (h.2 i g p hg hp).2.keep (h.2 i g p hg hp).1 hk⟩⟩

theorem Each.grown {T : TypeId} {B : Nat} {w w' : World} {gs : List Nat} {ps : List (List Int)} {row : Option Nat} (h : Each T B w gs ps)
    (hg : w.grownBy w' row) (hne : ∀ g ys, Blk w g T ys → row ≠ some g) : Each T B w' gs ps :=
  ⟨h.1, fun i g p hg' hp => ⟨(h.2 i g p hg' hp).1, (h.2 i g p hg' hp).2.grown hg (fun e => hne g _ (h.2 i g p hg' hp).2 e.symm)⟩⟩

theorem Each.snoc {T : TypeId} {B : Nat} {w : World} {gs : List Nat} {ps : List (List Int)} {g : Nat} {p : List Int} (h : Each T B w gs ps)
    (hg : B ≤ g) (hb : Blk w g T (ints p)) : Each T B w (gs ++ [g]) (ps ++ [p]) := by
  refine ⟨by simp [h.1], fun i g' p' hg' hp' => ?_⟩
  rcases Nat.lt_or_ge i gs.length with hi | hi
  · rw [List.getElem?_append_left hi] at hg'
    rw [List.getElem?_append_left (by rw [← h.1]; exact hi)] at hp'
    exact h.2 i g' p' hg' hp'
  · rw [List.getElem?_append_right hi] at hg'
    rw [List.getElem?_append_right (by rw [← h.1]; exact hi)] at hp'
    have h0 : i - gs.length = 0 := by
      rcases Nat.eq_zero_or_pos (i - gs.length) with h0 | h0
      · exact h0
      · rw [List.getElem?_eq_none (by simp; omega)] at hg'; cases hg'
    rw [h0] at hg'
    rw [← h.1, h0] at hp'
    simp at hg' hp'
    subst hg' hp'
    exact ⟨hg, hb⟩

/-- A slice of rows, each of d numbers and of a block of its own, all of them made from B on. -/
def RowsOf (T ST : TypeId) (d B : Nat) (w : World) (v : Value) (ps : List (List Int)) : Prop :=
  ∃ gs, Each T B w gs ps ∧ w.ownsRow B ST 1 v ps.length (gs.map fun g => .slice (some ⟨g, 0, none⟩) d d)
end Lox
namespace Lox
open Go Go.RowKit

/-- What a slice of rows is, written out: its block, and of each place the row's block and numbers. -/
theorem RowsOf.laid {T ST : TypeId} {d B : Nat} {w : World} {v : Value} {ps : List (List Int)} (h : RowsOf T ST d B w v ps) (hn : 0 < ps.length) :
    ∃ (b cap : Nat) (gs : List Nat), v = .slice (some ⟨b, 0, none⟩) ps.length cap ∧ B ≤ b ∧ b < w.heap.size ∧ gs.length = ps.length ∧
      ∀ i, i < ps.length → w.cell? ⟨b, i, none⟩ = some (.slice (some ⟨gs.getD i 0, 0, none⟩) d d) ∧ Blk w (gs.getD i 0) T (ints (ps.getD i [])) := by
  obtain ⟨gs, hE, hown⟩ := h
  rcases hown.2 with ⟨_, h0⟩ | ⟨g, cap, cur, rfl, hb, hg, hc⟩
  · omega
  · refine ⟨g, cap, gs, rfl, hb, (Array.getElem?_eq_some_iff.1 hg).1, hE.1, fun i hi => ⟨?_, ?_⟩⟩
    · have hlen : i < gs.length := by rw [hE.1]; exact hi
      have := hown.cells (g := g) rfl i (.slice (some ⟨gs.getD i 0, 0, none⟩) d d) (by simp [hlen])
      simpa [Addr.add_lit] using this
    · have hlen : i < gs.length := by rw [hE.1]; exact hi
      exact (hE.2 i _ _ (by simp [hlen]) (by simp [hi])).2
end Lox
