/- k-d trees as New and Insert make them, in memory. Conditions: none. -/
import Derived.Test.YtmeooadgdagiiaaTbPick
namespace Go.Proofs.Ytmeooadgdagiiaa
open Go.RowKit Lox
set_option linter.unusedVariables false

/-- A box of a node: its block, its least and its greatest point. -/
structure BX where
  g : Nat
  mn : TP
  mx : TP

/-- A tree as it lies in memory: of each node its block, its point, its plane, its box. -/
inductive MT where
  | nil
  | node (g : Nat) (p : TP) (d : Nat) (bx : Option BX) (l r : MT)

def MT.T : MT → KB.T TP
  | .nil => .nil
  | .node _ p d _ l r => .node p d l.T r.T

/-- The nodes' blocks. -/
def MT.gs : MT → List Nat
  | .nil => []
  | .node g _ _ _ l r => g :: (l.gs ++ r.gs)

/-- No node has a box. -/
def MT.bare : MT → Prop
  | .nil => True
  | .node _ _ _ bx l r => bx = none ∧ l.bare ∧ r.bare

def boxV : Option BX → Value
  | none => .pointer none
  | some x => .pointer (some ⟨x.g, 0, none⟩)

/-- What stands in a node's block. -/
def nodeCells (p : TP) (d : Nat) (lv rv : Value) (bx : Option BX) : List Value := [.iface 73 p.v, .int .i64 d, lv, rv, boxV bx]

/-- In world w, at v, such a tree stands. -/
def MT.In (w : World) : MT → Value → Prop
  | .nil, v => v = .pointer none
  | .node g p d bx l r, v => v = .pointer (some ⟨g, 0, none⟩) ∧ ∃ lv rv, Blk w g 122 (nodeCells p d lv rv bx) ∧ l.In w lv ∧ r.In w rv

theorem MT.In.ptr {w : World} {t : MT} {v : Value} (h : t.In w v) : ∃ q, v = .pointer q := by
  cases t with
  | nil => exact ⟨_, h⟩
  | node g p d bx l r => exact ⟨_, h.1⟩

theorem MT.In.keep {w w' : World} : ∀ {t : MT} {v : Value}, t.In w v → (∀ k ∈ t.gs, k < w.heap.size → w'.heap[k]? = w.heap[k]?) → t.In w' v := by
  intro t
  induction t with
  | nil => intro v h _; exact h
  | node g p d bx l r ihl ihr =>
    intro v h hk
    obtain ⟨e, lv, rv, hb, hl, hr⟩ := h
    refine ⟨e, lv, rv, ?_, ihl hl fun k hm => hk k (by simp [MT.gs, hm]), ihr hr fun k hm => hk k (by simp [MT.gs, hm])⟩
    have := hk g (by simp [MT.gs]) hb.lt
    unfold Blk at *
    rw [this, hb]

theorem MT.In.lt {w : World} : ∀ {t : MT} {v : Value}, t.In w v → ∀ k ∈ t.gs, k < w.heap.size := by
  intro t
  induction t with
  | nil => intro v h k hk; cases hk
  | node g p d bx l r ihl ihr =>
    intro v h k hk
    obtain ⟨e, lv, rv, hb, hl, hr⟩ := h
    rcases List.mem_cons.1 hk with rfl | hk
    · exact hb.lt
    · rcases List.mem_append.1 hk with hk | hk
      · exact ihl hl k hk
      · exact ihr hr k hk

theorem MT.In.mod {w w' : World} {t : MT} {v : Value} {S : Nat → Prop} (h : t.In w v) (hm : Mod S w w') (hS : ∀ k ∈ t.gs, ¬ S k) : t.In w' v :=
  h.keep fun k hk hl => hm.block k hl (hS k hk)

/-- A block in which no float number stands. -/
def NoFlt (w : World) (k : Nat) : Prop := ∀ o x, w.cell? ⟨k, o, none⟩ ≠ some (.float .f64 x)

theorem MT.In.noFlt {w : World} : ∀ {t : MT} {v : Value}, t.In w v → ∀ k ∈ t.gs, NoFlt w k := by
  intro t
  induction t with
  | nil => intro v h k hk; cases hk
  | node g p d bx l r ihl ihr =>
    intro v h k hk
    obtain ⟨e, lv, rv, hb, hl, hr⟩ := h
    rcases List.mem_cons.1 hk with rfl | hk
    · intro o x hc
      rw [hb.cell] at hc
      obtain ⟨q1, rfl⟩ := hl.ptr
      obtain ⟨q2, rfl⟩ := hr.ptr
      have hm := List.mem_of_getElem? hc
      unfold nodeCells boxV at hm
      cases bx <;> simp at hm
    · rcases List.mem_append.1 hk with hk | hk
      · exact ihl hl k hk
      · exact ihr hr k hk

/-- A point of a coordinate at least is as it was where only blocks without numbers have turned. -/
theorem TP.Ok.noFlt {w w' : World} {dims : Nat} {S : Nat → Prop} {p : TP} (h : p.Ok w dims) (hm : Mod S w w') (hS : ∀ k, k < w.heap.size → S k → NoFlt w k) : p.Ok w' dims := by
  refine ⟨h.1, h.2.1, fun h0 => ?_⟩
  obtain ⟨b, o, e, hc⟩ := h.2.2 h0
  refine ⟨b, o, e, fun j v hv => ?_⟩
  have hcj := hc j v hv
  refine (hm.cell (lt_of_cell hcj) (fun hs => ?_)).trans hcj
  have hv' : ∃ x, v = .float .f64 x := by
    have hm' := List.mem_of_getElem? hv
    obtain ⟨x, _, rfl⟩ := List.mem_map.1 hm'
    exact ⟨x, rfl⟩
  obtain ⟨x, rfl⟩ := hv'
  exact hS b (lt_of_cell hcj) hs (o + j) x hcj

/-- The points of a tree. -/
def MT.pts : MT → List TP
  | .nil => []
  | .node _ p _ _ l r => l.pts ++ p :: r.pts

theorem MT.pts_all : ∀ t : MT, t.pts = t.T.all := by
  intro t
  induction t with
  | nil => rfl
  | node g p d bx l r ihl ihr => simp only [MT.pts, MT.T, KB.T.all, ihl, ihr]
end Go.Proofs.Ytmeooadgdagiiaa
