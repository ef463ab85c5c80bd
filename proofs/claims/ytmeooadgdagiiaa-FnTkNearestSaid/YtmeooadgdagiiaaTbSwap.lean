/- The array of points that a k-d tree is built of: Len and Swap over a window of it. Conditions: as each says. -/
import Derived.Test.YtmeooadgdagiiaaRows
import Derived.Test.YtmeooadgdagiiaaFlt
import Derived.Test.YtmeooadgdagiiaaTbPlain
namespace Go.Proofs.Ytmeooadgdagiiaa
open Go.RowKit Lox
set_option linter.unusedVariables false
attribute [local go_sem] run_store_flt run_store_fn undef

/-- A point as it lies in the array: its slice and the numbers' bits. -/
structure TP where
  A : Option Addr
  c : Nat
  xs : List Nat

def TP.v (p : TP) : Value := .slice p.A p.xs.length p.c

/-- The array's block: the points, and whatever stands behind them. -/
def TPs (w : World) (pb : Nat) (ps : List TP) : Prop := ∃ rest, Blk w pb 73 (ps.map TP.v ++ rest)

theorem TPs.lt {w : World} {pb : Nat} {ps : List TP} (h : TPs w pb ps) : pb < w.heap.size := by obtain ⟨rest, h⟩ := h; exact h.lt

theorem TPs.at {w : World} {pb i : Nat} {ps : List TP} {p : TP} (h : TPs w pb ps) (hp : ps[i]? = some p) : w.cell? ⟨pb, i, none⟩ = some p.v := by
  obtain ⟨rest, h⟩ := h
  have hl := (List.getElem?_eq_some_iff.1 hp).1
  exact h.at (by rw [List.getElem?_append_left (by simpa using hl), List.getElem?_map, hp]; rfl)

theorem TPs.frozen {w : World} {pb : Nat} {ps : List TP} (h : TPs w pb ps) (i : Nat) : w.frozen? ⟨pb, i, none⟩ = false := by obtain ⟨rest, h⟩ := h; exact h.frozen i

theorem TPs.mod {w w' : World} {pb : Nat} {ps : List TP} {S : Nat → Prop} (h : TPs w pb ps) (hm : Mod S w w') (hS : ¬ S pb) : TPs w' pb ps := by obtain ⟨rest, h⟩ := h; exact ⟨rest, h.mod hm hS⟩

theorem TPs.set {w : World} {pb : Nat} {ps : List TP} (h : TPs w pb ps) (i : Nat) (hi : i < ps.length) (p : TP) : TPs (w.setCell ⟨pb, i, none⟩ p.v) pb (ps.set i p) := by
  obtain ⟨rest, h⟩ := h
  refine ⟨rest, ?_⟩
  have := Blk.set h i p.v
  rw [List.set_append_left _ _ (by simpa using hi)] at this
  rw [List.map_set]
  exact this

theorem TPs.alloc {w : World} {pb : Nat} {ps : List TP} (h : TPs w pb ps) (x : Obj) : TPs (w.alloc x) pb ps := by obtain ⟨rest, h⟩ := h; exact ⟨rest, h.alloc x⟩

theorem TPs.drew {w : World} {pb : Nat} {ps : List TP} (h : TPs w pb ps) : TPs w.drew pb ps := h

theorem swp_set {α : Type} {l : List α} {i j : Nat} {a b : α} (hi : l[i]? = some a) (hj : l[j]? = some b) : KB.swp l i j = (l.set i b).set j a := by
  unfold KB.swp
  rw [hi, hj]

set_option maxHeartbeats 4000000 in
theorem pswap_at (w : World) (d : Int) (pb o n c : Nat) (ps : List TP) (i j : Nat) (I J : Int) (hI : I = i) (hJ : J = j) (h : TPs w pb ps) (hi : i < n) (hj : j < n) (hn : o + n ≤ ps.length) (hl : ps.length ≤ 1099511627776) (hc : n ≤ c) :
    Calls Try.prog 156 #[.agg #[.int .i64 d, .slice (some ⟨pb, o, none⟩) n c], .int .i64 I, .int .i64 J] w fun e w' => e = .returned (.tuple #[]) ∧ TPs w' pb (KB.swp ps (o + i) (o + j)) ∧ Mod (fun k => k = pb) w w' := by
  subst hI hJ
  obtain ⟨p, hp⟩ : ∃ p, ps[o + i]? = some p := ⟨_, List.getElem?_eq_getElem (by omega)⟩
  obtain ⟨q, hq⟩ : ∃ q, ps[o + j]? = some q := ⟨_, List.getElem?_eq_getElem (by omega)⟩
  rw [swp_set hp hq]
  have c1 : w.cell? ⟨pb, o + i, none⟩ = some p.v := TPs.at h hp
  have c2 : w.cell? ⟨pb, o + j, none⟩ = some q.v := TPs.at h hq
  have f1 : w.frozen? ⟨pb, o + i, none⟩ = false := TPs.frozen h _
  have f2 : w.frozen? ⟨pb, o + j, none⟩ = false := TPs.frozen h _
  have i1 : (0 : Int) ≤ i := by omega
  have i2 : (i : Int) < n := by omega
  have j1 : (0 : Int) ≤ j := by omega
  have j2 : (j : Int) < n := by omega
  have lt := TPs.lt h
  have HH := Lib.hid h
  clear h
  unfold TP.v at c1 c2
  by_cases hij : i = j
  · subst hij
    obtain rfl : p = q := by have e := hp.symm.trans hq; cases e; rfl
    clear hq hp
    go_enter Try.func156, Try.ntmps156
    go_wp2
    go_region
    all_goals
      have hK := (((HH.out.set (o + i) (by omega) p).set (o + i) (by rw [List.length_set]; omega) p)).alloc (Obj.cells #[Value.int IntKind.i64 d, Value.slice (some { block := pb, off := o }) n c] 209) |>.drew
      have hM := ((((Mod.refl (fun k => k = pb) w).set (p := ⟨pb, o + i, none⟩) (Or.inl rfl) (.slice p.A p.xs.length p.c)).set (p := ⟨pb, o + i, none⟩) (Or.inl rfl) (.slice p.A p.xs.length p.c)).alloc (Obj.cells #[Value.int IntKind.i64 d, Value.slice (some { block := pb, off := o }) n c] 209)).drew
      refine bodyPost_end (by simp [results, Try.results156, go_sem]) rfl ⟨rfl, hK, hM⟩
  · have n1 : o + i ≠ o + j := by omega
    have n2 : o + j ≠ o + i := by omega
    clear hij hp hq
    go_enter Try.func156, Try.ntmps156
    go_wp2
    go_region
    all_goals
      have hK := (((HH.out.set (o + i) (by omega) q).set (o + j) (by rw [List.length_set]; omega) p)).alloc (Obj.cells #[Value.int IntKind.i64 d, Value.slice (some { block := pb, off := o }) n c] 209) |>.drew
      have hM := ((((Mod.refl (fun k => k = pb) w).set (p := ⟨pb, o + i, none⟩) (Or.inl rfl) (.slice q.A q.xs.length q.c)).set (p := ⟨pb, o + j, none⟩) (Or.inl rfl) (.slice p.A p.xs.length p.c)).alloc (Obj.cells #[Value.int IntKind.i64 d, Value.slice (some { block := pb, off := o }) n c] 209)).drew
      refine bodyPost_end (by simp [results, Try.results156, go_sem]) rfl ⟨rfl, hK, hM⟩
end Go.Proofs.Ytmeooadgdagiiaa
