/- The walks of withNumber and SquaresTo. Conditions: as each says. -/
import Derived.Test.YtmeooadgdagiiaaTnDist
import Derived.Test.YtmeooadgdagiiaaTnAll
import Derived.Test.YtmeooadgdagiiaaTbNodes
namespace Lox
open Go Go.RowKit
set_option linter.unusedVariables false

/-- A word of a whole number. -/
def Gn (x : Nat) : Prop := ∃ n, Gd 0 x n
open Classical in
/-- The whole number that a word stands for. -/
noncomputable def zv (x : Nat) : Int := if h : Gn x then Classical.choose h else 0
theorem zv_gd {x : Nat} (h : Gn x) : Gd 0 x (zv x) := by
  unfold zv
  rw [dif_pos h]
  exact Classical.choose_spec h
theorem zv_eq {x : Nat} {n : Int} (h : Gd 0 x n) : zv x = n := gd_unique (zv_gd ⟨n, h⟩) h

/-- xs with x at place i. -/
def insAt (xs : List Nat) (x i : Nat) : List Nat := xs.take i ++ x :: xs.drop i

theorem insAt_end (xs : List Nat) (x : Nat) : insAt xs x xs.length = xs ++ [x] := by simp [insAt]
theorem insAt_len {xs : List Nat} {x i : Nat} (h : i ≤ xs.length) : (insAt xs x i).length = xs.length + 1 := by simp [insAt]; omega
theorem split_at {xs : List Nat} {j y : Nat} (h : xs[j]? = some y) : ∃ A B, xs = A ++ y :: B ∧ A.length = j := by
  obtain ⟨hl, e⟩ := List.getElem?_eq_some_iff.1 h
  refine ⟨xs.take j, xs.drop (j + 1), ?_, by simp; omega⟩
  rw [← e, ← List.drop_eq_getElem_cons hl, List.take_append_drop]
theorem insAt_at {A B : List Nat} {x y : Nat} : insAt (A ++ y :: B) x A.length = A ++ x :: y :: B ∧ insAt (A ++ y :: B) x (A.length + 1) = A ++ y :: x :: B := by
  unfold insAt
  constructor
  · simp
  · have e : A ++ y :: B = (A ++ [y]) ++ B := by simp
    have l : A.length + 1 = (A ++ [y]).length := by simp
    rw [e, l, List.take_left, List.drop_left]
    simp
theorem insAt_swap {xs : List Nat} {x y j : Nat} (h : xs[j]? = some y) : ((insAt xs x (j + 1)).set (j + 1) y).set j x = insAt xs x j := by
  obtain ⟨A, B, rfl, rfl⟩ := split_at h
  rw [insAt_at.1, insAt_at.2]
  simp
theorem insAt_get {xs : List Nat} {x y j : Nat} (h : xs[j]? = some y) : (insAt xs x (j + 1))[j]? = some y ∧ (insAt xs x (j + 1))[j + 1]? = some x := by
  obtain ⟨A, B, rfl, rfl⟩ := split_at h
  rw [insAt_at.2]
  simp
theorem insAt_perm (xs : List Nat) (x i : Nat) : (insAt xs x i).Perm (x :: xs) := by
  unfold insAt
  refine List.perm_middle.trans ?_
  rw [List.take_append_drop]

/-- Sorted by the numbers. -/
def Up (xs : List Nat) : Prop := xs.Pairwise fun a b => zv a ≤ zv b

theorem insAt_up {xs : List Nat} {x i : Nat} (h : Up xs) (hi : i ≤ xs.length) (h1 : ∀ y ∈ xs.drop i, zv x < zv y) (h2 : ∀ j y, i = j + 1 → xs[j]? = some y → zv y ≤ zv x) : Up (insAt xs x i) := by
  have h0 : Up (xs.take i ++ xs.drop i) := by rw [List.take_append_drop]; exact h
  obtain ⟨a1, a2, a3⟩ := List.pairwise_append.1 h0
  refine List.pairwise_append.2 ⟨a1, List.pairwise_cons.2 ⟨fun y hy => by have := h1 y hy; omega, a2⟩, fun a ha b hb => ?_⟩
  rcases List.mem_cons.1 hb with rfl | hb
  · cases i with
    | zero => simp at ha
    | succ j =>
      obtain ⟨y, hy⟩ : ∃ y, xs[j]? = some y := ⟨_, List.getElem?_eq_getElem (by omega)⟩
      have hyx := h2 j y rfl hy
      rw [List.take_add_one, hy] at ha a1
      rcases List.mem_append.1 ha with ha | ha
      · have := (List.pairwise_append.1 a1).2.2 a ha y (by simp)
        omega
      · have : a = y := by simpa using ha
        rw [this]; exact hyx
  · exact a3 a ha b hb

theorem own_at {w : World} {B : Nat} {e : TypeId} {g n cap : Nat} {xs : List Value} (h : w.ownsRow B e 1 (.slice (some ⟨g, 0, none⟩) n cap) n xs) {j : Nat} {u : Value} (hu : xs[j]? = some u) : w.cell? ⟨g, j, none⟩ = some u ∧ w.frozen? ⟨g, j, none⟩ = false := by
  have h1 := h.cells (g := g) rfl j u hu
  rw [addr_lit, Nat.zero_add] at h1
  refine ⟨h1, ?_⟩
  rcases h.2 with ⟨e1, _⟩ | ⟨g', cap', cur, e1, hB, hg, _⟩
  · cases e1
  · cases e1
    have hb : Blk w g e cur.toList := by unfold Blk; simpa using hg
    exact hb.frozen _
end Lox
namespace Go.Proofs.Ytmeooadgdagiiaa
open Go.RowKit Lox
set_option linter.unusedVariables false
attribute [local go_sem] run_store_flt run_store_fn

theorem flts_set (xs : List Nat) (i x : Nat) : (flts xs).set i (.float .f64 x) = flts (xs.set i x) := by unfold flts; rw [List.map_set]
theorem flts_app (xs ys : List Nat) : flts xs ++ flts ys = flts (xs ++ ys) := by unfold flts; rw [List.map_append]
theorem flts_get {xs : List Nat} {j x : Nat} (h : xs[j]? = some x) : (flts xs)[j]? = some (.float .f64 x) := by unfold flts; rw [List.getElem?_map, h]; rfl

/-- What withNumber tells: the row's new value, the place. -/
def WithTold (B n : Nat) (v : Value) (xs : List Nat) (x : Nat) (w : World) (e : Ending) (w' : World) : Prop :=
  ∃ (g cap i : Nat), e = .returned (.slice (some ⟨g, 0, none⟩) (n + 1) cap) ∧ w'.ownsRow B 27 1 (.slice (some ⟨g, 0, none⟩) (n + 1) cap) (n + 1) (flts (insAt xs x i)) ∧ i ≤ n ∧ (∀ y ∈ xs.drop i, zv x < zv y) ∧ (∀ j y, i = j + 1 → xs[j]? = some y → zv y ≤ zv x) ∧ Mod (fun k => v.ownBlock = some k) w w' ∧ (v.ownBlock = some g ∨ w.heap.size ≤ g)

/-- The loop's state. -/
structure WS (B n g cap : Nat) (v : Value) (xs : List Nat) (x i : Nat) (w w' : World) : Prop where
  own : w'.ownsRow B 27 1 (.slice (some ⟨g, 0, none⟩) (n + 1) cap) (n + 1) (flts (insAt xs x i))
  gt : ∀ y ∈ xs.drop i, zv x < zv y
  mod : Mod (fun k => v.ownBlock = some k) w w'
  at' : v.ownBlock = some g ∨ w.heap.size ≤ g

theorem WS.step {B n g cap i y x : Nat} {v : Value} {xs : List Nat} {w w' : World} (h : WS B n g cap v xs x (i + 1) w w') (hy : xs[i]? = some y) (hlt : zv x < zv y) : WS B n g cap v xs x i w ((w'.setCell ⟨g, i + 1, none⟩ (.float .f64 y)).setCell ⟨g, i, none⟩ (.float .f64 x)) := by
  refine ⟨?_, fun z hz => ?_, (h.mod.set (p := ⟨g, i + 1, none⟩) h.at' _).set (p := ⟨g, i, none⟩) h.at' _, h.at'⟩
  · have h2 := own_set_at (i := i) (own_set_at (i := i + 1) h.own (.float .f64 y)) (.float .f64 x)
    rw [flts_set, flts_set, insAt_swap hy] at h2
    exact h2
  · obtain ⟨A, B', rfl, rfl⟩ := split_at hy
    rw [List.drop_left] at hz
    rcases List.mem_cons.1 hz with rfl | hz
    · exact hlt
    · refine h.gt z ?_
      have e : A ++ y :: B' = (A ++ [y]) ++ B' := by simp
      have l : A.length + 1 = (A ++ [y]).length := by simp
      rw [e, l, List.drop_left]
      exact hz

set_option maxHeartbeats 4000000 in
theorem with_at (B n : Nat) (v : Value) (xs : List Nat) (x : Nat) (w : World) (hown : w.ownsRow B 27 1 v n (flts xs)) (hn : n ≤ 2147483647) (hB : B ≤ w.heap.size) (hg : ∀ y ∈ xs, Gn y) (hx : Gn x) :
    Calls Try.prog 53 #[v, .float .f64 x] w (WithTold B n v xs x w) := by
  obtain ⟨i0, hi0, hz0, hz1, hz2⟩ := info_parts info_f64
  have HI := Lib.hid (And.intro hi0 (And.intro hz0 (And.intro hz1 hz2)))
  clear hi0 hz0 hz1 hz2
  have hxl : xs.length = n := by have := hown.1; simpa [flts] using this
  have HH := Lib.hid (And.intro hown (And.intro hB (And.intro hg (And.intro hx hxl))))
  clear hown hB hg hx hxl
  go_enter Try.func53, Try.ntmps53
  go_wp2_with (at_builtin; refine wpList_append_lies _ (by rfl) (.tmp 6) (.tmp 8) 26 (by rfl) B 27 i0 _ 1 8 Try.underlying26 HI.out.1 HI.out.2.1 HI.out.2.2.1 HI.out.2.2.2 rfl (by omega) v n (flts xs) (by rfl) ((HH.out.1.kept (Mod.grownBy (Mod.refl _ w)) (Decidable.em _)).alloc _) ⟨w.heap.size, 0, none⟩ 1 1 [.float .f64 x] (by rfl) (by rfl) (World.news_of_block (cs := #[.float .f64 x]) (t := 27) (fr := (0, 0)) (heap_alloc_new w _)) (by simp [Value.oneCell']) (by omega) (by unfold maxLen; omega) (by omega) (by have := HH.out.2.1; simp; omega) (w.heap.size + 1) (by simp) ?_; intro g cap w3 hown3 hgrow hat hlt3; have HG := Lib.hid (And.intro hown3 (And.intro hgrow hat)); clear hown3 hgrow hat)
  have hws : WS B n g cap v xs x n w w3 := by
    obtain ⟨h1, h2, h3⟩ := HG.out
    refine ⟨?_, fun y hy => ?_, ((Mod.refl _ w).alloc _).grown h2 (fun k e _ => e), ?_⟩
    · have e : flts xs ++ [.float .f64 x] = flts (insAt xs x n) := by rw [← HH.out.2.2.2.2, insAt_end, ← flts_app]; rfl
      rw [e] at h1
      exact h1
    · rw [← HH.out.2.2.2.2, List.drop_length] at hy; cases hy
    · rcases h3 with h3 | h3
      · exact .inl h3
      · exact .inr (by omega)
  have HW0 := Lib.hid hws
  clear hws
  go_loopw [5] (fun i w' => ∃ k : Nat, k ≤ n ∧ i = .int .i64 k ∧ Hid (WS B n g cap v xs x k w w')) (fun i _ => (intOf i).toNat)
  case atStart => exact ⟨n, Nat.le_refl _, by go_num, HW0.out⟩
  case round =>
    obtain ⟨k, hk, rfl, HR⟩ := hrel
    cases k with
    | zero =>
      go_wp2
      go_ret
      exact ⟨g, cap, 0, rfl, HR.out.own, Nat.zero_le _, HR.out.gt, (fun j y e => by omega), HR.out.mod, HR.out.at'⟩
    | succ j =>
      obtain ⟨y, hy⟩ : ∃ y, xs[j]? = some y := ⟨_, List.getElem?_eq_getElem (by have := HH.out.2.2.2.2; omega)⟩
      obtain ⟨g1, g2⟩ := insAt_get (x := x) hy
      obtain ⟨c1, z1⟩ := own_at HR.out.own (flts_get g1)
      obtain ⟨c2, z2⟩ := own_at HR.out.own (flts_get g2)
      have gy := HH.out.2.2.1 y (List.mem_of_getElem? hy)
      have hgt := (zv_gd gy).gt (zv_gd HH.out.2.2.2.1)
      have HY := Lib.hid hy
      have j0 : (0 : Int) ≤ j := by omega
      have j1 : (j : Int) < (n : Int) + 1 := by omega
      have j2 : (j : Int) + 1 < (n : Int) + 1 := by omega
      clear hy g1 g2 gy
      by_cases hlt : zv x < zv y
      · rw [decide_eq_true hlt] at hgt
        have HLT := Lib.hid hlt
        clear hlt
        go_wp2
        go_roundw
        case rel => exact ⟨j, by omega, by go_num, HR.out.step HY.out HLT.out⟩
        case measure => simp [intOf]
      · rw [decide_eq_false hlt] at hgt
        have HLT := Lib.hid hlt
        clear hlt
        go_wp2
        go_ret
        exact ⟨g, cap, j + 1, rfl, HR.out.own, hk, HR.out.gt, (fun j' y' e e2 => by
          obtain rfl : j' = j := by omega
          have e3 := HY.out.symm.trans e2
          injection e3 with e3
          subst e3
          have := HLT.out
          omega), HR.out.mod, HR.out.at'⟩
end Go.Proofs.Ytmeooadgdagiiaa
