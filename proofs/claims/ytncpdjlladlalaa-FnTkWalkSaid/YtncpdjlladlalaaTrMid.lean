/- The memory of the reference's walk: its variables, its two rows, and what the two appends of a step do to them. Conditions: none. -/
import Derived.Test.YtncpdjlladlalaaRows
import Derived.Test.YtncpdjlladlalaaIno
import Derived.Test.YtncpdjlladlalaaEach
namespace Go.Proofs.Ytncpdjlladlalaa
open Go.RowKit Lox
set_option linter.unusedVariables false

/-- The function that goes on from a node, as a value: its variables are the seven behind each other. -/
def fromV (H : Nat) : Value := .func (Fn.func 52) #[] #[.pointer (some ⟨H + 4, 0, none⟩), .pointer (some ⟨H, 0, none⟩), .pointer (some ⟨H + 6, 0, none⟩), .pointer (some ⟨H + 1, 0, none⟩), .pointer (some ⟨H + 7, 0, none⟩), .pointer (some ⟨H + 2, 0, none⟩), .pointer (some ⟨H + 3, 0, none⟩)]

/-- Two rows of numbers of their own, made from B on. -/
structure Two (B : Nat) (w : World) (v1 v2 : Value) (os ds : List Int) : Prop where
  o1 : w.ownsRow B 3 1 v1 os.length (ints os)
  o2 : w.ownsRow B 3 1 v2 ds.length (ints ds)
  ne : ∀ k, v1.ownBlock = some k → v2.ownBlock ≠ some k

/-- The memory of the walk: H is where its variables begin. -/
structure WS (H n : Nat) (sd : Value) (w0 w : World) (ok : Bool) (os ds : List Int) (bs : List Bool) : Prop where
  bel : Below H w0 w
  size : H + 8 ≤ w.heap.size
  bn : Blk w H 3 [.int .i64 n]
  bsd : Blk w (H + 1) 54 [sd]
  bok : Blk w (H + 4) 4 [.bool ok]
  bS : Blk w (H + 5) 4 (bs.map Value.bool)
  bse : Blk w (H + 6) 97 [.slice (some ⟨H + 5, 0, none⟩) n n]
  bfr : Blk w (H + 7) 98 [fromV H]
  len : bs.length = n
  rows : ∃ v1 v2, Blk w (H + 2) 24 [v1] ∧ Blk w (H + 3) 24 [v2] ∧ Two (H + 8) w v1 v2 os ds

theorem own_ge {w : World} {B : Nat} {e : TypeId} {size : Nat} {v : Value} {n : Nat} {xs : List Value} {k : Nat} (h : w.ownsRow B e size v n xs) (hk : v.ownBlock = some k) : B ≤ k ∧ k < w.heap.size := by
  rcases h.2 with ⟨rfl, _⟩ | ⟨g, cap, cur, rfl, hb, hg, _⟩
  · simp [Value.ownBlock] at hk
  · simp only [Value.ownBlock, Option.some.injEq] at hk
    subst hk
    exact ⟨hb, (Array.getElem?_eq_some_iff.1 hg).1⟩

section
variable {H n : Nat} {sd : Value} {w0 w w' : World} {ok : Bool} {os ds : List Int} {bs : List Bool}

theorem Two.keep {B : Nat} {v1 v2 : Value} (h : Two B w v1 v2 os ds) (hk : ∀ k, B ≤ k → k < w.heap.size → w'.heap[k]? = w.heap[k]?) : Two B w' v1 v2 os ds :=
  ⟨owns_keep h.o1 hk, owns_keep h.o2 hk, h.ne⟩

theorem WS.mod (h : WS H n sd w0 w ok os ds bs) (hm : Mod (fun _ => False) w w') : WS H n sd w0 w' ok os ds bs := by
  obtain ⟨v1, v2, h1, h2, h3⟩ := h.rows
  have hs := h.size
  exact ⟨⟨hm.os.trans h.bel.os, hm.tape.trans h.bel.tape, hm.output.trans h.bel.output, Nat.le_trans h.bel.size hm.size, fun k hk => (hm.block k (by omega) (fun h => h)).trans (h.bel.block k hk)⟩, Nat.le_trans hs hm.size, h.bn.mod hm (fun h => h), h.bsd.mod hm (fun h => h), h.bok.mod hm (fun h => h), h.bS.mod hm (fun h => h), h.bse.mod hm (fun h => h), h.bfr.mod hm (fun h => h), h.len,
    v1, v2, h1.mod hm (fun h => h), h2.mod hm (fun h => h), h3.keep fun k _ hk => hm.block k hk (fun h => h)⟩

theorem below_set {B : Nat} (h : Below B w0 w) {a : Addr} (ha : B ≤ a.block) (v : Value) : Below B w0 (w.setCell a v) :=
  ⟨h.os, h.tape, h.output, by simpa [World.setCell] using h.size, fun k hk => (Below.heap_setCell _ _ _ _ (by omega)).trans (h.block k hk)⟩

theorem WS.no (h : WS H n sd w0 w ok os ds bs) : WS H n sd w0 (w.setCell ⟨H + 4, 0, none⟩ (.bool false)) false os ds bs := by
  obtain ⟨v1, v2, h1, h2, h3⟩ := h.rows
  have hs := h.size
  exact ⟨below_set h.bel (by show H ≤ H + 4; omega) _, by simpa [World.setCell] using hs, h.bn.other _ (by show H + 4 ≠ H; omega), h.bsd.other _ (by show H + 4 ≠ H + 1; omega), h.bok.set 0 _, h.bS.other _ (by show H + 4 ≠ H + 5; omega), h.bse.other _ (by show H + 4 ≠ H + 6; omega), h.bfr.other _ (by show H + 4 ≠ H + 7; omega), h.len,
    v1, v2, h1.other _ (by show H + 4 ≠ H + 2; omega), h2.other _ (by show H + 4 ≠ H + 3; omega), h3.keep fun k hk _ => Below.heap_setCell _ _ _ _ (by show k ≠ H + 4; omega)⟩

theorem WS.see (h : WS H n sd w0 w ok os ds bs) (k : Nat) : WS H n sd w0 (w.setCell ⟨H + 5, k, none⟩ (.bool true)) ok os ds (bs.set k true) := by
  obtain ⟨v1, v2, h1, h2, h3⟩ := h.rows
  have hs := h.size
  exact ⟨below_set h.bel (by show H ≤ H + 5; omega) _, by simpa [World.setCell] using hs, h.bn.other _ (by show H + 5 ≠ H; omega), h.bsd.other _ (by show H + 5 ≠ H + 1; omega), h.bok.other _ (by show H + 5 ≠ H + 4; omega), by rw [List.map_set]; exact h.bS.set k _, h.bse.other _ (by show H + 5 ≠ H + 6; omega), h.bfr.other _ (by show H + 5 ≠ H + 7; omega), by simpa using h.len,
    v1, v2, h1.other _ (by show H + 5 ≠ H + 2; omega), h2.other _ (by show H + 5 ≠ H + 3; omega), h3.keep fun k hk _ => Below.heap_setCell _ _ _ _ (by show k ≠ H + 5; omega)⟩
end

/-- In the midst of the two appends: what has been laid besides (fs), and what the rows are by now. -/
structure Mid (B : Nat) (w wx : World) (v1 v2 : Value) (c1 c2 : List Int) (fs : List (Nat × Int)) : Prop where
  bel : Below B w wx
  size : B ≤ wx.heap.size
  two : Two B wx v1 v2 c1 c2
  fresh : ∀ p ∈ fs, Blk wx p.1 3 [.int .i64 p.2] ∧ v1.ownBlock ≠ some p.1 ∧ v2.ownBlock ≠ some p.1

section
variable {B : Nat} {w wx w' : World} {v1 v2 : Value} {c1 c2 : List Int} {fs : List (Nat × Int)}

theorem Two.mid (h : Two B w v1 v2 c1 c2) (hB : B ≤ w.heap.size) : Mid B w w.drew v1 v2 c1 c2 [] := ⟨(Below.refl _ _).drew, hB, h.keep fun _ _ _ => rfl, fun p hp => by cases hp⟩

theorem Mid.build (h : Mid B w wx v1 v2 c1 c2 fs) (x : Int) : Mid B w (wx.alloc (.cells #[.int .i64 x] 3)) v1 v2 c1 c2 ((wx.heap.size, x) :: fs) := by
  have hs := h.size
  refine ⟨h.bel.alloc (by omega) _, by rw [World.size_alloc]; omega, h.two.keep fun k _ hk => Below.heap_alloc _ _ _ hk, fun p hp => ?_⟩
  rcases List.mem_cons.1 hp with rfl | hp
  · exact ⟨Blk.new _ [.int .i64 x] _, fun e => by have := (own_ge h.two.o1 e).2; omega, fun e => by have := (own_ge h.two.o2 e).2; omega⟩
  · exact ⟨(h.fresh p hp).1.alloc _, (h.fresh p hp).2⟩

theorem Mid.news (h : Mid B w wx v1 v2 c1 c2 fs) {x : Int} {G : Nat} (hm : (G, x) ∈ fs) : ∀ (j : Nat) (u : Value), ([Value.int .i64 x] : List Value)[j]? = some u → wx.cell? ((⟨G, 0, none⟩ : Addr).add j) = some u := by
  intro j u hu
  have := (h.fresh _ hm).1.at hu
  rw [addr_lit]
  simpa using this

theorem Mid.cell (h : Mid B w wx v1 v2 c1 c2 fs) {k i : Nat} {v : Value} (hk : k < B) (hc : w.cell? ⟨k, i, none⟩ = some v) : wx.cell? ⟨k, i, none⟩ = some v :=
  (World.cell?_of_block (w := w) (h.bel.block k hk)).trans hc

theorem Mid.frozen (h : Mid B w wx v1 v2 c1 c2 fs) {k i : Nat} (hk : k < B) (hc : w.frozen? ⟨k, i, none⟩ = false) : wx.frozen? ⟨k, i, none⟩ = false :=
  (World.frozen?_of_block (w := w) (h.bel.block k hk)).trans hc

theorem Mid.app1 (h : Mid B w wx v1 v2 c1 c2 fs) {g cap : Nat} {x : Int} (hown : w'.ownsRow B 3 1 (.slice (some ⟨g, 0, none⟩) (c1.length + 1) cap) (c1.length + 1) (ints c1 ++ [.int .i64 x])) (hg : wx.grownBy w' v1.ownBlock) (hat : v1.ownBlock = some g ∨ g = wx.heap.size) :
    Mid B w w' (.slice (some ⟨g, 0, none⟩) (c1.length + 1) cap) v2 (c1 ++ [x]) c2 fs := by
  have hne : v2.ownBlock ≠ some g := fun e => by
    rcases hat with hat | hat
    · exact h.two.ne g hat e
    · have := (own_ge h.two.o2 e).2; omega
  refine ⟨h.bel.grown hg h.size (fun k hk => (own_ge h.two.o1 hk).1), Nat.le_trans h.size hg.size, ⟨?_, ?_, fun k hk => ?_⟩, fun p hp => ⟨(h.fresh p hp).1.grown hg (fun e => (h.fresh p hp).2.1 e.symm), fun e => ?_, (h.fresh p hp).2.2⟩⟩
  · rw [List.length_append]; simpa [ints] using hown
  · exact h.two.o2.kept hg (by
      cases hv : v2.ownBlock with
      | none => exact .inl rfl
      | some k => exact .inr (fun e => h.two.ne k e.symm hv))
  · simp only [Value.ownBlock, Option.some.injEq] at hk
    subst hk
    exact hne
  · simp only [Value.ownBlock, Option.some.injEq] at e
    subst e
    rcases hat with hat | hat
    · exact (h.fresh p hp).2.1 hat
    · have := (h.fresh p hp).1.lt; omega

theorem Two.turn {B : Nat} {w : World} {v1 v2 : Value} {os ds : List Int} (h : Two B w v1 v2 os ds) : Two B w v2 v1 ds os := ⟨h.o2, h.o1, fun k h2 h1 => h.ne k h1 h2⟩

theorem Mid.turn (h : Mid B w wx v1 v2 c1 c2 fs) : Mid B w wx v2 v1 c2 c1 fs := ⟨h.bel, h.size, h.two.turn, fun p hp => ⟨(h.fresh p hp).1, (h.fresh p hp).2.2, (h.fresh p hp).2.1⟩⟩

theorem Mid.app2 (h : Mid B w wx v1 v2 c1 c2 fs) {g cap : Nat} {x : Int} (hown : w'.ownsRow B 3 1 (.slice (some ⟨g, 0, none⟩) (c2.length + 1) cap) (c2.length + 1) (ints c2 ++ [.int .i64 x])) (hg : wx.grownBy w' v2.ownBlock) (hat : v2.ownBlock = some g ∨ g = wx.heap.size) :
    Mid B w w' v1 (.slice (some ⟨g, 0, none⟩) (c2.length + 1) cap) c1 (c2 ++ [x]) fs := (h.turn.app1 hown hg hat).turn
end

section
variable {H n : Nat} {sd : Value} {w0 w wx : World} {ok : Bool} {os ds c1 c2 : List Int} {bs : List Bool} {fs : List (Nat × Int)} {v1 v2 : Value}

theorem Mid.fin (h : Mid (H + 8) w wx v1 v2 c1 c2 fs) (hw : WS H n sd w0 w ok os ds bs) : WS H n sd w0 ((wx.setCell ⟨H + 2, 0, none⟩ v1).setCell ⟨H + 3, 0, none⟩ v2) ok c1 c2 bs := by
  obtain ⟨u1, u2, h1, h2, h3⟩ := hw.rows
  have hk : ∀ k, k < H + 8 → k ≠ H + 2 → k ≠ H + 3 → ((wx.setCell ⟨H + 2, 0, none⟩ v1).setCell ⟨H + 3, 0, none⟩ v2).heap[k]? = w.heap[k]? := fun k hk a b =>
    (Below.heap_setCell _ _ _ _ b).trans ((Below.heap_setCell _ _ _ _ a).trans (h.bel.block k hk))
  have key : ∀ {k : Nat} {T : TypeId} {xs : List Value}, Blk w k T xs → k < H + 8 → k ≠ H + 2 → k ≠ H + 3 → Blk ((wx.setCell ⟨H + 2, 0, none⟩ v1).setCell ⟨H + 3, 0, none⟩ v2) k T xs := fun hb h1 h2 h3 => by
    have := hk _ h1 h2 h3
    unfold Blk at *
    rw [this]; exact hb
  have hs := h.size
  exact ⟨(hw.bel.trans (h.bel.mono (by omega))).setCell (by show H ≤ H + 2; omega) _ |>.setCell (by show H ≤ H + 3; omega) _, by simpa [World.setCell] using hs,
    key hw.bn (by omega) (by omega) (by omega), key hw.bsd (by omega) (by omega) (by omega), key hw.bok (by omega) (by omega) (by omega), key hw.bS (by omega) (by omega) (by omega), key hw.bse (by omega) (by omega) (by omega), key hw.bfr (by omega) (by omega) (by omega), hw.len,
    v1, v2, ((h1.below h.bel (by omega)).set 0 v1).other _ (by show H + 3 ≠ H + 2; omega), ((h2.below h.bel (by omega)).other _ (by show H + 2 ≠ H + 3; omega)).set 0 v2,
    h.two.keep fun k hk _ => (Below.heap_setCell _ _ _ _ (by show k ≠ H + 3; omega)).trans (Below.heap_setCell _ _ _ _ (by show k ≠ H + 2; omega))⟩

theorem set_comm2 (w : World) {a b : Addr} (h : a.block ≠ b.block) (u v : Value) : (w.setCell a u).setCell b v = (w.setCell b v).setCell a u := by
  have key : ∀ k : Nat, ((w.setCell a u).setCell b v).heap[k]? = ((w.setCell b v).setCell a u).heap[k]? := fun k => by
    simp only [World.setCell, Array.getElem?_modify]
    by_cases ha : k = a.block
    · subst ha
      simp [Ne.symm h]
    · by_cases hb : k = b.block
      · subst hb
        simp [h]
      · simp [Ne.symm ha, Ne.symm hb]
  have : ((w.setCell a u).setCell b v).heap = ((w.setCell b v).setCell a u).heap := Array.ext_getElem? key
  simp only [World.setCell] at this ⊢
  rw [this]

theorem Mid.fin' (h : Mid (H + 8) w wx v1 v2 c1 c2 fs) (hw : WS H n sd w0 w ok os ds bs) : WS H n sd w0 ((wx.setCell ⟨H + 3, 0, none⟩ v2).setCell ⟨H + 2, 0, none⟩ v1) ok c1 c2 bs := by
  rw [set_comm2 _ (by show H + 3 ≠ H + 2; omega)]
  exact h.fin hw
end
end Go.Proofs.Ytncpdjlladlalaa
