/- Rows of numbers of the call's own. Conditions: none. -/
import Derived.Test.YtncpdjlladlalaaKpPlain2
import Derived.Test.YtncpdjlladlalaaTrFl
namespace Go.Proofs.Ytncpdjlladlalaa
open Go.RowKit Lox
set_option linter.unusedVariables false

theorem shown_take {els : List El} {k : Nat} (h : k < els.length) : (els.take (k + 1)).map shown = (els.take k).map shown ++ [shown (at' els k)] := by
  rw [List.take_succ_eq_append_getElem h, List.map_append]
  unfold at'
  rw [List.getD_eq_getElem?_getD, List.getElem?_eq_getElem h]
  rfl

/-- A row of numbers of the call's own, so far. -/
def ShowAt (B : Nat) (w wr : World) (v : Value) (k : Nat) (xs : List Nat) : Prop := wr.ownsRow B 28 1 v k (flts xs) ∧ Mod (fun _ => False) w wr ∧ xs.length = k

theorem ShowAt.snoc {w wr w3 : World} {v : Value} {k x gg cap : Nat} {xs : List Nat} {o1 o2 : Obj} (h : ShowAt w.heap.size w wr v k xs)
    (hown : w3.ownsRow w.heap.size 28 1 (.slice (some ⟨gg, 0, none⟩) (k + 1) cap) (k + 1) (flts xs ++ [.float .f64 x])) (hg : ((wr.alloc o1).alloc o2).grownBy w3 v.ownBlock) :
    ShowAt w.heap.size w w3 (.slice (some ⟨gg, 0, none⟩) (k + 1) cap) (k + 1) (xs ++ [x]) := by
  refine ⟨by simpa [flts] using hown, ((h.2.1.alloc o1).alloc o2).grown hg (fun b e hb => ?_), by simp [h.2.2]⟩
  have : w.heap.size ≤ b := by
    rcases h.1.2 with ⟨rfl, _⟩ | ⟨g, cap, cur, rfl, hgb, _⟩
    · simp [Value.ownBlock] at e
    · simp only [Value.ownBlock, Option.some.injEq] at e
      omega
  omega

theorem ShowAt.done {w wr : World} {v : Value} {k : Nat} {xs : List Nat} (h : ShowAt w.heap.size w wr v k xs) : NewPt k xs w (.returned v) wr := by
  rcases h.1.2 with ⟨rfl, h0⟩ | ⟨g, cap, cur, e1, hb, hg, hc⟩
  · subst h0
    exact ⟨none, 0, rfl, ⟨by have := h.1.1; simpa using this, fun h => by omega⟩, h.2.1, fun b o e => by cases e⟩
  · subst e1
    refine ⟨some ⟨g, 0, none⟩, cap, rfl, ⟨h.1.1, fun _ => ⟨g, 0, rfl, fun j u hu => ?_⟩⟩, h.2.1, fun b o e => by cases e; exact hb⟩
    have := h.1.cells (g := g) rfl j u hu
    rw [addr_lit] at this
    exact this

end Go.Proofs.Ytncpdjlladlalaa
