/- Rows of nodes that the thin package writes a k-d tree down in. Conditions: none. -/
import Derived.Test.YtmeooadgdagiiaaTbKpts
import Derived.Test.YtmeooadgdagiiaaTbIns
namespace Go.Proofs.Ytmeooadgdagiiaa
open Go.RowKit Lox
set_option linter.unusedVariables false

/-- A node of a k-d tree that is written down, as plain data. -/
structure PR where
  xs : List Nat
  pl : Nat
  l : Int
  r : Int
  mn : List Nat
  mx : List Nat
deriving DecidableEq

/-- A node that is written down, in memory. -/
structure KR where
  p : TP
  pl : Nat
  l : Int
  r : Int
  mn : TP
  mx : TP

def KR.cells (x : KR) : List Value := [x.p.v, .int .i64 x.pl, .int .i64 x.l, .int .i64 x.r, x.mn.v, x.mx.v]
def KR.plain (x : KR) : PR := ⟨x.p.xs, x.pl, x.l, x.r, x.mn.xs, x.mx.xs⟩

def MT.count : MT → Nat
  | .nil => 0
  | .node _ _ _ _ l r => 1 + l.count + r.count

def boxMn : Option BX → List Nat
  | none => []
  | some b => b.mn.xs
def boxMx : Option BX → List Nat
  | none => []
  | some b => b.mx.xs

/-- Where a tree stands that is written down from place i on. -/
def MT.at (i : Nat) : MT → Int
  | .nil => -1
  | .node _ _ _ _ _ _ => i

/-- A tree written down from place i on: the node, what is on its left, what is on its right. -/
def MT.flat : Nat → MT → List PR
  | _, .nil => []
  | i, .node _ p d bx l r => ⟨p.xs, d, l.at (i + 1), r.at (i + 1 + l.count), boxMn bx, boxMx bx⟩ :: (l.flat (i + 1) ++ r.flat (i + 1 + l.count))

theorem MT.flat_len : ∀ (t : MT) (i : Nat), (t.flat i).length = t.count := by
  intro t
  induction t with
  | nil => intro i; rfl
  | node g p d bx l r ihl ihr => intro i; simp only [MT.flat, MT.count, List.length_cons, List.length_append, ihl, ihr]; omega

theorem flat6_len (rs : List KR) : (rs.flatMap KR.cells).length = rs.length * 6 := by
  induction rs with
  | nil => rfl
  | cons x rs ih => simp only [List.flatMap_cons, List.length_append, List.length_cons, ih, KR.cells, List.length_nil]; omega

theorem flat6_get (rs : List KR) (i j : Nat) (x : KR) (hx : rs[i]? = some x) (hj : j < 6) : (rs.flatMap KR.cells)[i * 6 + j]? = x.cells[j]? := by
  induction rs generalizing i with
  | nil => simp at hx
  | cons y rs ih =>
    rw [List.flatMap_cons]
    have hy : y.cells.length = 6 := rfl
    cases i with
    | zero =>
      simp only [List.getElem?_cons_zero, Option.some.injEq] at hx
      subst hx
      rw [Nat.zero_mul, Nat.zero_add, List.getElem?_append_left (by omega)]
    | succ i =>
      rw [List.getElem?_append_right (by omega), hy]
      have e : (i + 1) * 6 + j - 6 = i * 6 + j := by omega
      rw [e]
      exact ih i (by simpa using hx)

theorem flat6_set (rs : List KR) (i j : Nat) (x y : KR) (v : Value) (hx : rs[i]? = some x) (hy : y.cells = x.cells.set j v) (hj : j < 6) : (rs.flatMap KR.cells).set (i * 6 + j) v = (rs.set i y).flatMap KR.cells := by
  induction rs generalizing i with
  | nil => simp at hx
  | cons z rs ih =>
    have hz : z.cells.length = 6 := rfl
    cases i with
    | zero =>
      simp only [List.getElem?_cons_zero, Option.some.injEq] at hx
      subst hx
      rw [List.flatMap_cons, Nat.zero_mul, Nat.zero_add, List.set_append_left _ _ (by omega), List.set_cons_zero, List.flatMap_cons, hy]
    | succ i =>
      rw [List.flatMap_cons, List.set_append_right _ _ (by omega), hz, List.set_cons_succ, List.flatMap_cons]
      have e : (i + 1) * 6 + j - 6 = i * 6 + j := by omega
      rw [e, ih i (by simpa using hx)]

theorem own_set_at {w : World} {B : Nat} {e : TypeId} {size g n cap i : Nat} {xs : List Value} (h : w.ownsRow B e size (.slice (some ⟨g, 0, none⟩) n cap) n xs) (u : Value) :
    (w.setCell ⟨g, i, none⟩ u).ownsRow B e size (.slice (some ⟨g, 0, none⟩) n cap) n (xs.set i u) := by
  refine ⟨by rw [List.length_set]; exact h.1, ?_⟩
  rcases h.2 with ⟨e1, _⟩ | ⟨g', cap', cur, e1, hB, hg, hc, hcm, hsz, ht⟩
  · cases e1
  · cases e1
    have hb : Blk w g e cur.toList := by unfold Blk; simpa using hg
    have hs := hb.set i u
    refine .inr ⟨g, cap, (cur.toList.set i u).toArray, rfl, hB, hs, hc, hcm, by simp [hsz], ?_⟩
    simp only [List.take_set, ht]

/-- A point that is a node's own: no box's point, or one of dims coordinates, in a block apart from the row. -/
def TP.Own (B : Nat) (w : World) (dims : Nat) (v : Value) (p : TP) : Prop := p.Ok w dims ∧ ∀ b o, p.A = some ⟨b, o, none⟩ → B ≤ b ∧ v.ownBlock ≠ some b
def TP.Own0 (B : Nat) (w : World) (dims : Nat) (v : Value) (p : TP) : Prop := p = ⟨none, 0, []⟩ ∨ p.Own B w dims v

/-- Nodes that are written down, in a row v of their own. -/
structure KS (B : Nat) (w : World) (dims : Nat) (v : Value) (rs : List KR) : Prop where
  own : w.ownsRow B 39 6 v rs.length (rs.flatMap KR.cells)
  ok : ∀ x ∈ rs, x.p.Own B w dims v ∧ x.mn.Own0 B w dims v ∧ x.mx.Own0 B w dims v

theorem KS.nil (B : Nat) (w : World) (dims : Nat) : KS B w dims (.slice none 0 0) [] := ⟨World.ownsRow_nil _ _ _ _, fun x hx => by cases hx⟩


theorem TP.Own.keep {B : Nat} {w w' : World} {dims : Nat} {v : Value} {p : TP} (h : p.Own B w dims v) (hk : ∀ k, k < w.heap.size → v.ownBlock ≠ some k → w'.heap[k]? = w.heap[k]?) : p.Own B w' dims v := by
  refine ⟨⟨h.1.1, h.1.2.1, fun h0 => ?_⟩, h.2⟩
  obtain ⟨b, o, e, hc⟩ := h.1.2.2 h0
  exact ⟨b, o, e, fun j u hu => (World.cell?_of_block (w := w) (hk b (lt_of_cell (hc j u hu)) (h.2 b o e).2)).trans (hc j u hu)⟩

theorem TP.Own0.keep {B : Nat} {w w' : World} {dims : Nat} {v : Value} {p : TP} (h : p.Own0 B w dims v) (hk : ∀ k, k < w.heap.size → v.ownBlock ≠ some k → w'.heap[k]? = w.heap[k]?) : p.Own0 B w' dims v :=
  h.imp id fun h => h.keep hk

theorem KS.mod {B : Nat} {w w' : World} {dims : Nat} {v : Value} {rs : List KR} (h : KS B w dims v rs) (hm : Mod (fun _ => False) w w') : KS B w' dims v rs :=
  ⟨h.own.kept hm.grownBy (Decidable.em _), fun x hx => ⟨(h.ok x hx).1.keep fun k hk _ => hm.block k hk (fun h => h), (h.ok x hx).2.1.keep fun k hk _ => hm.block k hk (fun h => h), (h.ok x hx).2.2.keep fun k hk _ => hm.block k hk (fun h => h)⟩⟩

/-- The own block behind an append: a point apart from the elder one is apart from the newer one. -/
theorem TP.Own.moved {B : Nat} {w : World} {dims : Nat} {v v' : Value} {p : TP} (hd : 0 < dims) (h : p.Own B w dims v) {g H : Nat} (hv : v'.ownBlock = some g) (hat : v.ownBlock = some g ∨ g = H) (hH : w.heap.size ≤ H) : p.Own B w dims v' := by
  refine ⟨h.1, fun b o e => ⟨(h.2 b o e).1, fun e2 => ?_⟩⟩
  rw [hv] at e2
  injection e2 with e2
  subst e2
  have hlt : g < w.heap.size := (h.1.2.far (by omega)) (by rw [h.1.1]; exact hd) g o e
  rcases hat with h1 | h1
  · exact (h.2 g o e).2 h1
  · omega

theorem TP.Own0.moved {B : Nat} {w : World} {dims : Nat} {v v' : Value} {p : TP} (hd : 0 < dims) (h : p.Own0 B w dims v) {g H : Nat} (hv : v'.ownBlock = some g) (hat : v.ownBlock = some g ∨ g = H) (hH : w.heap.size ≤ H) : p.Own0 B w dims v' :=
  h.imp id fun h => h.moved hd hv hat hH

/-- A node more is written down. -/
theorem KS.push {B : Nat} {w w3 : World} {dims g cap : Nat} {v : Value} {rs : List KR} {x : KR} {o : Obj} (hd : 0 < dims) (h : KS B w dims v rs) (hx : x.p.Own B w dims v ∧ x.mn.Own0 B w dims v ∧ x.mx.Own0 B w dims v)
    (hown : w3.ownsRow B 39 6 (.slice (some ⟨g, 0, none⟩) (rs.length + 1) cap) (rs.length + 1) (rs.flatMap KR.cells ++ x.cells)) (hgrow : (w.alloc o).grownBy w3 v.ownBlock) (hat : v.ownBlock = some g ∨ g = w.heap.size + 1) :
    KS B w3 dims (.slice (some ⟨g, 0, none⟩) (rs.length + 1) cap) (rs ++ [x]) := by
  have hk : ∀ k, k < w.heap.size → v.ownBlock ≠ some k → w3.heap[k]? = w.heap[k]? := fun k hk hne =>
    (hgrow.block k (by rw [World.size_alloc]; omega) (Ne.symm hne)).trans (Below.heap_alloc _ _ _ hk)
  have hz : w.heap.size ≤ w3.heap.size := by have := hgrow.size; rw [World.size_alloc] at this; omega
  have mv : ∀ p : TP, p.Own B w dims v → p.Own B w3 dims (.slice (some ⟨g, 0, none⟩) (rs.length + 1) cap) := by
    intro p hp
    have h1 : p.Own B w dims (.slice (some ⟨g, 0, none⟩) (rs.length + 1) cap) := hp.moved hd rfl hat (by omega)
    exact ⟨(hp.keep hk).1, h1.2⟩
  have mv0 : ∀ p : TP, p.Own0 B w dims v → p.Own0 B w3 dims (.slice (some ⟨g, 0, none⟩) (rs.length + 1) cap) := fun p hp => hp.imp id (mv p)
  refine ⟨by rw [List.length_append, List.flatMap_append]; simpa using hown, fun y hy => ?_⟩
  rcases List.mem_append.1 hy with hy | hy
  · exact ⟨mv _ (h.ok y hy).1, mv0 _ (h.ok y hy).2.1, mv0 _ (h.ok y hy).2.2⟩
  · rw [List.mem_singleton.1 hy]
    exact ⟨mv _ hx.1, mv0 _ hx.2.1, mv0 _ hx.2.2⟩

/-- A node's both sides are written. -/
theorem KS.sides {B : Nat} {w : World} {dims i g n cap : Nat} {rs : List KR} {x : KR} (h : KS B w dims (.slice (some ⟨g, 0, none⟩) n cap) rs) (hn : n = rs.length) (hx : rs[i]? = some x) (l r : Int) :
    KS B ((w.setCell ⟨g, i * 6 + 2, none⟩ (.int .i64 l)).setCell ⟨g, i * 6 + 3, none⟩ (.int .i64 r)) dims (.slice (some ⟨g, 0, none⟩) n cap) (rs.set i { x with l := l, r := r }) := by
  subst hn
  have hil := (List.getElem?_eq_some_iff.1 hx).1
  have h1 := own_set_at (i := i * 6 + 2) h.own (.int .i64 l)
  rw [flat6_set rs i 2 x { x with l := l } _ hx rfl (by omega)] at h1
  have hx2 : (rs.set i { x with l := l })[i]? = some { x with l := l } := by rw [List.getElem?_set_self hil]
  have h2 := own_set_at (i := i * 6 + 3) h1 (.int .i64 r)
  rw [flat6_set _ i 3 { x with l := l } { x with l := l, r := r } _ hx2 rfl (by omega), List.set_set] at h2
  have hk : ∀ k, k < w.heap.size → (Value.slice (some ⟨g, 0, none⟩) rs.length cap).ownBlock ≠ some k → ((w.setCell ⟨g, i * 6 + 2, none⟩ (.int .i64 l)).setCell ⟨g, i * 6 + 3, none⟩ (.int .i64 r)).heap[k]? = w.heap[k]? := fun k _ hne => by
    have hne' : k ≠ g := fun e => hne (by rw [e]; rfl)
    rw [Below.heap_setCell _ _ _ _ (by show k ≠ g; exact hne'), Below.heap_setCell _ _ _ _ (by show k ≠ g; exact hne')]
  have hk2 : ∀ y ∈ rs, (y.p.Own B ((w.setCell ⟨g, i * 6 + 2, none⟩ (.int .i64 l)).setCell ⟨g, i * 6 + 3, none⟩ (.int .i64 r)) dims (.slice (some ⟨g, 0, none⟩) rs.length cap)) ∧ y.mn.Own0 B ((w.setCell ⟨g, i * 6 + 2, none⟩ (.int .i64 l)).setCell ⟨g, i * 6 + 3, none⟩ (.int .i64 r)) dims (.slice (some ⟨g, 0, none⟩) rs.length cap) ∧ y.mx.Own0 B ((w.setCell ⟨g, i * 6 + 2, none⟩ (.int .i64 l)).setCell ⟨g, i * 6 + 3, none⟩ (.int .i64 r)) dims (.slice (some ⟨g, 0, none⟩) rs.length cap) :=
    fun y hy => ⟨(h.ok y hy).1.keep hk, (h.ok y hy).2.1.keep hk, (h.ok y hy).2.2.keep hk⟩
  refine ⟨by rw [List.length_set]; exact h2, fun y hy => ?_⟩
  rcases List.mem_or_eq_of_mem_set hy with hy | rfl
  · exact hk2 y hy
  · exact hk2 x (List.mem_of_getElem? hx)

theorem KS.cell {B : Nat} {w : World} {dims i g n cap j : Nat} {rs : List KR} {x : KR} (h : KS B w dims (.slice (some ⟨g, 0, none⟩) n cap) rs) (hn : n = rs.length) (hx : rs[i]? = some x) (hj : j < 6) :
    w.cell? ⟨g, i * 6 + j, none⟩ = x.cells[j]? ∧ w.frozen? ⟨g, i * 6 + j, none⟩ = false := by
  subst hn
  have hg := flat6_get rs i j x hx hj
  have hcj : x.cells[j]? = some (x.cells[j]'(by show j < 6; exact hj)) := List.getElem?_eq_getElem _
  rw [hcj] at hg
  have := h.own.cells (g := g) rfl _ _ hg
  rw [addr_lit, Nat.zero_add] at this
  refine ⟨this.trans hcj.symm, ?_⟩
  rcases h.own.2 with ⟨e1, _⟩ | ⟨g', cap', cur, e1, hB, hgg, _⟩
  · cases e1
  · cases e1
    have hb : Blk w g 39 cur.toList := by unfold Blk; simpa using hgg
    exact hb.frozen _
end Go.Proofs.Ytmeooadgdagiiaa
