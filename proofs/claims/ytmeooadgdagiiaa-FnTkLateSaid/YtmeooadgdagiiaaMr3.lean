/- Steps of a proof, one behind another: The walks of the reference's Walk and VWalk. The build of a k-d tree as a plain function: Partition, the picks, the tree. The array of points that a k-d tree is built of: Len and Swap over a window of it. The array of points that a k-d tree is built of: Len and Less. Finite float numbers as whole numbers, in their order. Conditions: as each theorem says. -/
import Derived.Test.YtmeooadgdagiiaaMr2
import Derived.Deep.OwnRows
import Derived.Test.YtmeooadgdagiiaaRows

namespace Go.Proofs.Ytmeooadgdagiiaa.W
open Go.RowKit Lox
set_option linter.unusedVariables false
attribute [local go_sem] run_store_flt run_store_fn

theorem info_bool : (Try.prog.info? 4).map (fun i => (i.zero, i.size, i.bytes)) = some (some (.bool false), 1, 1) := by kernel_rfl

theorem made_bools (n : Nat) : (madeCells #[.bool false] n).toList = (List.replicate n false).map Value.bool := by
  have : madeCells #[.bool false] n = (List.replicate n (Value.bool false)).toArray := by
    apply Array.ext
    · simp [madeCells]
    · intro i h1 h2
      simp [madeCells, Nat.mod_one]
  rw [this]
  simp

theorem blk_new_at {w : World} {b : Nat} (h : w.heap.size = b) (c : Array Value) (T : TypeId) {xs : List Value} (hx : c.toList = xs) : Blk (w.alloc (.cells c T)) b T xs := by
  subst h hx
  exact Blk.new' w c T

theorem own_sl {w : World} {B : Nat} {e : TypeId} {v : Value} {n : Nat} {xs : List Value} (h : w.ownsRow B e 1 v n xs) : ∃ A cap, v = .slice A n cap ∧ Sl w A n 1 xs := by
  rcases h.2 with ⟨rfl, h0⟩ | ⟨g, cap, cur, e1, hb, hg, hc⟩
  · subst h0
    exact ⟨none, 0, rfl, by have := h.1; simpa using this, fun h => by omega⟩
  · refine ⟨some ⟨g, 0, none⟩, cap, e1, h.1, fun _ => ⟨g, 0, rfl, fun j u hu => ?_⟩⟩
    have := h.cells (g := g) (by rw [e1]; rfl) j u hu
    rw [addr_lit] at this
    exact this

theorem ws_init (w : World) (H n : Nat) (sd : Value) (hH : w.heap.size = H) : WS H n sd w ((((((((w.alloc (.cells #[.int .i64 n] 3)).alloc (.cells #[sd] 87)).alloc (.cells #[.slice none 0 0] 23)).alloc (.cells #[.slice none 0 0] 23)).alloc (.cells #[.bool true] 4)).alloc (.cells (madeCells #[.bool false] n) 4)).alloc (.cells #[.slice (some ⟨H + 5, 0, none⟩) n n] 130)).alloc (.cells #[fromV H] 131)) true [] [] (List.replicate n false) := by
  have hs : ∀ (w : World) (o : Obj) (k : Nat), w.heap.size = k → (w.alloc o).heap.size = k + 1 := fun w o k h => by rw [World.size_alloc, h]
  have s1 := hs w (.cells #[.int .i64 n] 3) H hH
  have s2 := hs _ (.cells #[sd] 87) _ s1
  have s3 := hs _ (.cells #[.slice none 0 0] 23) _ s2
  have s4 := hs _ (.cells #[.slice none 0 0] 23) _ s3
  have s5 := hs _ (.cells #[.bool true] 4) _ s4
  have s6 := hs _ (.cells (madeCells #[.bool false] n) 4) _ s5
  have s7 := hs _ (.cells #[.slice (some ⟨H + 5, 0, none⟩) n n] 130) _ s6
  have s8 := hs _ (.cells #[fromV H] 131) _ s7
  refine ⟨((((((((Below.refl _ _).alloc (by omega) _).alloc (by omega) _).alloc (by omega) _).alloc (by omega) _).alloc (by omega) _).alloc (by omega) _).alloc (by omega) _).alloc (by omega) _, by omega, ?_, ?_, ?_, ?_, ?_, ?_, by simp, .slice none 0 0, .slice none 0 0, ?_, ?_, ⟨World.ownsRow_nil _ _ _ _, World.ownsRow_nil _ _ _ _, fun k h => by cases h⟩⟩
  · exact (((((((blk_new_at hH _ _ rfl).alloc _).alloc _).alloc _).alloc _).alloc _).alloc _).alloc _
  · exact ((((((blk_new_at s1 _ _ rfl).alloc _).alloc _).alloc _).alloc _).alloc _).alloc _
  · exact (((blk_new_at s4 _ _ rfl).alloc _).alloc _).alloc _
  · exact ((blk_new_at s5 _ _ (made_bools n)).alloc _).alloc _
  · exact (blk_new_at s6 _ _ rfl).alloc _
  · exact (blk_new_at s7 _ _ rfl)
  · exact (((((blk_new_at s2 _ _ rfl).alloc _).alloc _).alloc _).alloc _).alloc _
  · exact ((((blk_new_at s3 _ _ rfl).alloc _).alloc _).alloc _).alloc _

theorem own_sl2 {w : World} {B : Nat} {e : TypeId} {A : Option Addr} {c n : Nat} {xs : List Value} (h : w.ownsRow B e 1 (.slice A n c) n xs) : Sl w A n 1 xs := by
  obtain ⟨A', c', e, h'⟩ := own_sl h
  cases e
  exact h'

/-- The end of the walk: the results stand in their variables. -/
theorem walk_end {H n : Nat} {sd : Value} {w w1 : World} {ok : Bool} {os ds : List Int} {bs : List Bool} {v1 v2 : Value} (hW : WS H n sd w w1 ok os ds bs) (hH : w.heap.size = H)
    (b1 : Blk w1 (H + 2) 23 [v1]) (b2 : Blk w1 (H + 3) 23 [v2]) (h2 : Two (H + 8) w1 v1 v2 os ds) (g : Bool) :
    ∃ W, W = (((w1.setCell ⟨H + 2, 0, none⟩ v1).setCell ⟨H + 3, 0, none⟩ v2).setCell ⟨H + 4, 0, none⟩ (.bool g)).drew ∧ Mod (fun _ => False) w W ∧ Two (H + 8) W v1 v2 os ds ∧
      W.cell? ⟨H + 2, 0, none⟩ = some v1 ∧ W.cell? ⟨H + 3, 0, none⟩ = some v2 ∧ W.cell? ⟨H + 4, 0, none⟩ = some (.bool g) := by
  refine ⟨_, rfl, ?_, ?_, ?_, ?_, ?_⟩
  · have := hW.bel
    rw [← hH] at this
    exact ((((Mod.ofBelow this).set (.inr (by show w.heap.size ≤ H + 2; omega)) _).set (.inr (by show w.heap.size ≤ H + 3; omega)) _).set (.inr (by show w.heap.size ≤ H + 4; omega)) _).drew
  · exact h2.keep fun k hk _ => (Below.heap_setCell _ _ _ _ (by show k ≠ H + 4; omega)).trans ((Below.heap_setCell _ _ _ _ (by show k ≠ H + 3; omega)).trans (Below.heap_setCell _ _ _ _ (by show k ≠ H + 2; omega)))
  · exact ((((b1.set 0 v1).other _ (by show H + 3 ≠ H + 2; omega)).other _ (by show H + 4 ≠ H + 2; omega)).drew).at (i := 0) rfl
  · exact ((((b2.other _ (by show H + 2 ≠ H + 3; omega)).set 0 v2).other _ (by show H + 4 ≠ H + 3; omega)).drew).at (i := 0) rfl
  · exact ((((hW.bok.other _ (by show H + 2 ≠ H + 4; omega)).other _ (by show H + 3 ≠ H + 4; omega)).set 0 (.bool g)).drew).at (i := 0) rfl

/-- What the reference's walk tells: where it says yes, the nodes in order, and their depths. -/
def WalkTold (n : Nat) (C F : Nat → Int) (w : World) (e : Ending) (w' : World) : Prop :=
  ∃ A1 c1 m A2 c2 os ds b, e = .returned (.tuple #[.slice A1 m c1, .slice A2 m c2, .bool b]) ∧ Mod (fun _ => False) w w' ∧ Sl w' A1 m 1 (ints os) ∧ Sl w' A2 m 1 (ints ds) ∧
    (b = true → 0 < n → m = n ∧ os = (ino C F n 0 0).map (·.1) ∧ ds = (ino C F n 0 0).map (·.2)) ∧ (0 < n → ∀ s : SH, s.At C F n 0 (-1) → s.ids.Nodup → s.ids.length = n → b = true)

set_option maxHeartbeats 4000000 in
theorem walk_at (T : Option Addr) (c : Nat) (xs : List KN) (pt n : Nat) (w : World) (hn : n = xs.length) (h0 : 0 < n) (hn2 : n ≤ 2147483647) (hb0 : Blk w pt 28 [.slice T xs.length c]) (hN : KNodes w T xs) :
    Calls Try.prog 38 #[.int .i64 n, .func (Fn.func 39) #[] #[.pointer (some ⟨pt, 0, none⟩)]] w (WalkTold n (KC xs) (KF xs) w) := by
  have hmk := run_make_row' (P := Try.prog) 130 4 (.bool false) 1 Try.underlying130 info_bool rfl .i64 .i64 n (by omega) (by omega)
  have HC : Hid (Blk w pt 28 [.slice T xs.length c] ∧ KNodes w T xs ∧ n = xs.length) := ⟨hb0, hN, hn⟩
  clear hb0 hN hn
  go_enter Try.func38, Try.ntmps38
  go_wp2_with (go_at_call 65; refine (from_at T c xs pt w.heap.size n w rfl HC.out.2.2 hn2 HC.out.1 HC.out.2.1 (n + 1) 0 (-1) 0 _ true [] [] (List.replicate n false) _ (ws_init w w.heap.size n (sdV pt) rfl) (by omega) (by omega) (by omega) (by omega) rfl (by simp) rfl).mono ?_; rintro _ w1 ⟨rfl, ok, os, ds, bs, hW1, hc1, hl1, hr1, hy1⟩)
  obtain ⟨v1, v2, b1, b2, h2r⟩ := hW1.rows
  obtain ⟨A1, c1, rfl, hs1⟩ := own_sl h2r.o1
  obtain ⟨A2, c2, rfl, hs2⟩ := own_sl h2r.o2
  have cO : w1.cell? ⟨w.heap.size + 1 + 1, 0, none⟩ = some (.slice A1 os.length c1) := b1.at (i := 0) rfl
  have cD : w1.cell? ⟨w.heap.size + 1 + 1 + 1, 0, none⟩ = some (.slice A2 ds.length c2) := b2.at (i := 0) rfl
  have cK : w1.cell? ⟨w.heap.size + 1 + 1 + 1 + 1, 0, none⟩ = some (.bool ok) := hW1.bok.at (i := 0) rfl
  have cN : w1.cell? ⟨w.heap.size, 0, none⟩ = some (.int .i64 n) := hW1.bn.at (i := 0) rfl
  have fO : w1.frozen? ⟨w.heap.size + 1 + 1, 0, none⟩ = false := b1.frozen 0
  have fD : w1.frozen? ⟨w.heap.size + 1 + 1 + 1, 0, none⟩ = false := b2.frozen 0
  have fK : w1.frozen? ⟨w.heap.size + 1 + 1 + 1 + 1, 0, none⟩ = false := hW1.bok.frozen 0
  obtain ⟨m, hm⟩ : ∃ m, m = os.length := ⟨_, rfl⟩
  obtain ⟨m2, hm2⟩ : ∃ m, m = ds.length := ⟨_, rfl⟩
  have HL := Lib.hid (And.intro hm (And.intro hm2 hl1))
  rw [← hm] at cO
  rw [← hm2] at cD
  have HE : Hid (∀ g : Bool, ∃ W, W = (((w1.setCell ⟨w.heap.size + 1 + 1, 0, none⟩ (.slice A1 m c1)).setCell ⟨w.heap.size + 1 + 1 + 1, 0, none⟩ (.slice A2 m2 c2)).setCell ⟨w.heap.size + 1 + 1 + 1 + 1, 0, none⟩ (.bool g)).drew ∧ Mod (fun _ => False) w W ∧ Two (w.heap.size + 8) W (.slice A1 m c1) (.slice A2 m2 c2) os ds ∧
      W.cell? ⟨w.heap.size + 1 + 1, 0, none⟩ = some (.slice A1 m c1) ∧ W.cell? ⟨w.heap.size + 1 + 1 + 1, 0, none⟩ = some (.slice A2 m2 c2) ∧ W.cell? ⟨w.heap.size + 1 + 1 + 1 + 1, 0, none⟩ = some (.bool g)) := by
    show ∀ g : Bool, _
    rw [hm, hm2]
    exact walk_end hW1 rfl b1 b2 h2r
  have HR := Lib.hid hr1
  have HY := Lib.hid hy1
  clear hm hm2 hl1 hs1 hs2 h2r b1 b2 hW1 hr1 hy1
  cases ok with
  | false =>
    go_region
    obtain ⟨W, eW, hM, hT, e1, e2, e3⟩ := HE.out false
    rw [← eW]
    clear eW
    go_wp2_with fail
    refine bodyPost_ret (v := .tuple #[.slice A1 m c1, .slice A2 m2 c2, .bool false]) (by simp [results, Try.results38, go_sem, e1, e2, e3]) rfl ?_
    obtain ⟨hmo, hmd, hl⟩ := HL.out
    obtain rfl : m2 = m := by omega
    have ho := hT.o1
    have hd := hT.o2
    rw [← hmo] at ho
    rw [← hmd] at hd
    exact ⟨A1, c1, m2, A2, c2, os, ds, false, rfl, hM, own_sl2 ho, own_sl2 hd, (fun h => by cases h), fun _ s hs hn _ => (HY.out s rfl hs hn (fun k hk => rep_false (by have := s.at_lt hs k hk; omega))).1⟩
  | true =>
    obtain ⟨g, hg⟩ : ∃ g : Bool, ((m : Int) == (n : Int)) = g := ⟨_, rfl⟩
    go_region
    obtain ⟨W, eW, hM, hT, e1, e2, e3⟩ := HE.out g
    rw [← eW]
    clear eW
    go_wp2_with fail
    refine bodyPost_ret (v := .tuple #[.slice A1 m c1, .slice A2 m2 c2, .bool g]) (by simp [results, Try.results38, go_sem, e1, e2, e3]) rfl ?_
    obtain ⟨hmo, hmd, hl⟩ := HL.out
    obtain rfl : m2 = m := by omega
    have ho := hT.o1
    have hd := hT.o2
    rw [← hmo] at ho
    rw [← hmd] at hd
    refine ⟨A1, c1, m2, A2, c2, os, ds, g, rfl, hM, own_sl2 ho, own_sl2 hd, fun h hn => ?_, fun hn s hs _ hl => ?_⟩
    rotate_left
    · obtain ⟨_, _, ho1, _⟩ := HR.out (by trivial)
      have h2 := congrArg List.length ho1
      rw [List.nil_append, List.length_map, s.at_len hs, hl] at h2
      rw [← hg, hmo, h2]
      simp
    rw [h] at hg
    obtain ⟨_, _, ho1, hd1⟩ := HR.out (by trivial)
    have hch : chl (KC xs) (KF xs) n 0 (-1) 0 = ino (KC xs) (KF xs) n 0 0 := by
      unfold chl
      rw [if_pos ⟨by omega, by omega⟩]
      rfl
    rw [hch] at ho1 hd1
    exact ⟨by have := eq_of_beq hg; omega, by simpa using ho1, by simpa using hd1⟩

set_option maxHeartbeats 4000000 in
theorem vwalk_at (T : Option Addr) (c n : Nat) (xs : List KN) (w : World) (hn : n = xs.length) (h0 : 0 < n) (hn2 : n ≤ 2147483647) (hN : KNodes w T xs) :
    Calls Try.prog 13 #[.slice T n c] w (WalkTold n (KC xs) (KF xs) w) := by
  have HC : Hid (KNodes w T xs ∧ n = xs.length) := ⟨hN, hn⟩
  clear hN hn
  go_enter Try.func13, Try.ntmps13
  go_wp2_with (go_at_call 38; refine (walk_at T c xs w.heap.size n _ HC.out.2 h0 hn2 (by rw [← HC.out.2]; exact blk_new_at rfl _ _ rfl) (HC.out.1.mod ((Mod.refl _ _).alloc _))).mono ?_; rintro _ w1 ⟨A1, c1, m, A2, c2, os, ds, b, rfl, hM, hs1, hs2, hb, hy⟩)
  exact bodyPost_ret (v := .tuple #[.slice A1 m c1, .slice A2 m c2, .bool b]) (by simp [results, Try.results13, go_sem]) rfl ⟨A1, c1, m, A2, c2, os, ds, b, rfl, ((Mod.refl _ _).alloc _).trans hM, hs1, hs2, hb, hy⟩
end Go.Proofs.Ytmeooadgdagiiaa.W

namespace Lox.KB

variable {α : Type}

/-- Two places of a list, changed one for the other. -/
def swp (l : List α) (i j : Nat) : List α :=
  match l[i]?, l[j]? with
  | some a, some b => (l.set i b).set j a
  | _, _ => l

theorem swp_len (l : List α) (i j : Nat) : (swp l i j).length = l.length := by
  unfold swp; split <;> simp

theorem swp_at (l : List α) (i j : Nat) (hi : i < l.length) (hj : j < l.length) (k : Nat) :
    (swp l i j)[k]? = if k = j then l[i]? else if k = i then l[j]? else l[k]? := by
  unfold swp
  rw [List.getElem?_eq_getElem hi, List.getElem?_eq_getElem hj]
  simp only [List.getElem?_set, List.length_set]
  by_cases h1 : k = j
  · subst h1; simp [hj]
  · by_cases h2 : k = i
    · subst h2; simp [h1, hi, Ne.symm h1]
    · simp [Ne.symm h1, Ne.symm h2, h1, h2]

theorem swp_same (l : List α) (i : Nat) : swp l i i = l := by
  apply List.ext_getElem?
  intro k
  by_cases hi : i < l.length
  · rw [swp_at l i i hi hi]; split
    · next h => rw [h]
    · rfl
  · unfold swp
    rw [List.getElem?_eq_none (l := l) (i := i) (by omega)]

theorem swp_perm (l : List α) (i j : Nat) : (swp l i j).Perm l := by
  by_cases hi : i < l.length
  · by_cases hj : j < l.length
    · have : swp l i j = (l.set i l[j]).set j l[i] := by
        unfold swp; rw [List.getElem?_eq_getElem hi, List.getElem?_eq_getElem hj]
      rw [this]
      exact List.set_set_perm hi hj
    · unfold swp
      rw [List.getElem?_eq_none (l := l) (i := j) (by omega)]
      split
      · next h => cases h
      · exact List.Perm.refl _
  · unfold swp
    rw [List.getElem?_eq_none (l := l) (i := i) (by omega)]

theorem swp_mid (A l B : List α) (i j : Nat) (hi : i < l.length) (hj : j < l.length) : swp (A ++ (l ++ B)) (A.length + i) (A.length + j) = A ++ (swp l i j ++ B) := by
  have get : ∀ k, k < l.length → (A ++ (l ++ B))[A.length + k]? = l[k]? := by
    intro k hk
    rw [List.getElem?_append_right (by omega), List.getElem?_append_left (by omega)]
    congr 1
    omega
  unfold swp
  rw [get i hi, get j hj, List.getElem?_eq_getElem hi, List.getElem?_eq_getElem hj]
  simp only
  rw [List.set_append_right _ _ (by omega), List.set_append_right _ _ (by omega), List.set_append_left _ _ (by omega), List.set_append_left _ _ (by simp; omega)]
  simp

/-- Partition's loop: n rounds to go, at i, with the index that it holds. le x y: x's number is at most y's. -/
def partLoop (le : α → α → Bool) (last : Nat) : Nat → List α → Nat → Nat → List α × Nat
  | 0, l, _, idx => (l, idx)
  | n + 1, l, i, idx =>
    match l[i]?, l[last]? with
    | some x, some p => if le x p then partLoop le last n (swp l idx i) (i + 1) (idx + 1) else partLoop le last n l (i + 1) idx
    | _, _ => (l, idx)

/-- Partition: the list behind it, and the place that it returns. -/
def part (le : α → α → Bool) (l : List α) (k : Nat) : List α × Nat :=
  let r := partLoop le (l.length - 1) (l.length - 1) (swp l k (l.length - 1)) 0 0
  (swp r.1 (l.length - 1) r.2, r.2)

/-- What the loop keeps. -/
structure PI (le : α → α → Bool) (last : Nat) (p : α) (l0 l : List α) (i idx : Nat) : Prop where
  len : l.length = l0.length
  perm : l.Perm l0
  piv : l[last]? = some p
  ii : idx ≤ i
  il : i ≤ last
  low : ∀ j x, j < idx → l[j]? = some x → le x p = true
  high : ∀ j x, idx ≤ j → j < i → l[j]? = some x → le x p = false

theorem partLoop_ok (le : α → α → Bool) (last : Nat) (p : α) (l0 : List α) (hl : last < l0.length) :
    ∀ (n : Nat) (l : List α) (i idx : Nat), i + n = last → PI le last p l0 l i idx →
      PI le last p l0 (partLoop le last n l i idx).1 last (partLoop le last n l i idx).2 := by
  intro n
  induction n with
  | zero => intro l i idx hn h; have : i = last := by omega
            subst this; exact h
  | succ n ih =>
    intro l i idx hn h
    have hi : i < l.length := by rw [h.len]; omega
    have hx : idx < l.length := by have := h.ii; omega
    have hla : last < l.length := by rw [h.len]; omega
    have hle := h.ii
    unfold partLoop
    rw [List.getElem?_eq_getElem hi, h.piv]
    by_cases hc : le l[i] p = true
    · simp only [hc, if_true]
      refine ih _ _ _ (by omega) ⟨by rw [swp_len, h.len], (swp_perm _ _ _).trans h.perm, ?_, by omega, by omega, ?_, ?_⟩
      · rw [swp_at _ _ _ hx hi, if_neg (by omega), if_neg (by omega)]; exact h.piv
      · intro j x hj e
        rw [swp_at _ _ _ hx hi] at e
        by_cases h1 : j = i
        · rw [if_pos h1] at e
          have hxi : idx = i := by omega
          rw [hxi, List.getElem?_eq_getElem hi] at e
          cases e; exact hc
        · rw [if_neg h1] at e
          by_cases h2 : j = idx
          · rw [if_pos h2, List.getElem?_eq_getElem hi] at e; cases e; exact hc
          · rw [if_neg h2] at e; exact h.low j x (by omega) e
      · intro j x h1 h2 e
        rw [swp_at _ _ _ hx hi] at e
        by_cases h3 : j = i
        · rw [if_pos h3] at e; exact h.high idx x (by omega) (by omega) e
        · rw [if_neg h3, if_neg (by omega)] at e; exact h.high j x (by omega) (by omega) e
    · simp only [hc, if_false, Bool.false_eq_true]
      refine ih _ _ _ (by omega) ⟨h.len, h.perm, h.piv, by omega, by omega, h.low, ?_⟩
      intro j x h1 h2 e
      by_cases h3 : j = i
      · rw [h3, List.getElem?_eq_getElem hi] at e; cases e; simpa using hc
      · exact h.high j x h1 (by omega) e

theorem part_len (le : α → α → Bool) (l : List α) (k : Nat) (hk : k < l.length) (p : α) (hp : l[k]? = some p) :
    PI le (l.length - 1) p l (partLoop le (l.length - 1) (l.length - 1) (swp l k (l.length - 1)) 0 0).1 (l.length - 1)
      (partLoop le (l.length - 1) (l.length - 1) (swp l k (l.length - 1)) 0 0).2 := by
  refine partLoop_ok le _ p l (by omega) _ _ 0 0 (by omega) ⟨swp_len _ _ _, swp_perm _ _ _, ?_, by omega, by omega, by intro j _ h; omega, by intro j _ _ h; omega⟩
  rw [swp_at _ _ _ hk (by omega), if_pos rfl, hp]

/-- What Partition does: the place is one of the list's, the picked one stands there, those before are at most it, those behind are not. -/
theorem part_ok (le : α → α → Bool) (l : List α) (k : Nat) (hk : k < l.length) (p : α) (hp : l[k]? = some p) :
    (part le l k).1.length = l.length ∧ (part le l k).1.Perm l ∧ (part le l k).2 < l.length ∧ (part le l k).1[(part le l k).2]? = some p ∧
      (∀ j x, j < (part le l k).2 → (part le l k).1[j]? = some x → le x p = true) ∧
      (∀ j x, (part le l k).2 < j → (part le l k).1[j]? = some x → le x p = false) := by
  have h := part_len le l k hk p hp
  unfold part
  generalize (partLoop le (l.length - 1) (l.length - 1) (swp l k (l.length - 1)) 0 0) = r at h
  obtain ⟨m, idx⟩ := r
  simp only at h ⊢
  have hlen := h.len
  have hle := h.ii
  have hx : idx < m.length := by omega
  have hla : l.length - 1 < m.length := by omega
  refine ⟨by rw [swp_len, h.len], (swp_perm _ _ _).trans h.perm, by omega, ?_, ?_, ?_⟩
  · rw [swp_at _ _ _ hla hx, if_pos rfl]; exact h.piv
  · intro j x hj e
    rw [swp_at _ _ _ hla hx, if_neg (by omega), if_neg (by omega)] at e
    exact h.low j x hj e
  · intro j x hj e
    have hj2 : j < m.length := by
      have := (List.getElem?_eq_some_iff.1 e).1; rw [swp_len] at this; exact this
    rw [swp_at _ _ _ hla hx, if_neg (by omega)] at e
    by_cases h1 : j = l.length - 1
    · rw [if_pos h1] at e; exact h.high idx x (by omega) (by omega) e
    · rw [if_neg h1] at e; exact h.high j x (by omega) (by omega) e

/-- A tree of points. -/
inductive T (α : Type) where
  | nil
  | node (p : α) (plane : Nat) (l r : T α)

def T.all : T α → List α
  | .nil => []
  | .node p _ l r => l.all ++ p :: r.all

/-- Which one is picked of n, and what picks are left. -/
def pick (n : Nat) : List Nat → Nat × List Nat
  | [] => (n / 2, [])
  | k :: ks => (k % n, ks)

/-- build: dims coordinates, at: which number of a point. -/
def build (le : Nat → α → α → Bool) (dims : Nat) : Nat → List α → List Nat → Nat → T α × List Nat
  | 0, _, ks, _ => (.nil, ks)
  | n + 1, l, ks, d =>
    if l.length = 0 then (.nil, ks) else
    let k := pick l.length ks
    let r := part (le d) l k.1
    match r.1[r.2]? with
    | none => (.nil, ks)
    | some p =>
      let a := build le dims n (r.1.take r.2) k.2 ((d + 1) % dims)
      let b := build le dims n (r.1.drop (r.2 + 1)) a.2 ((d + 1) % dims)
      (.node p d a.1 b.1, b.2)

theorem pick_lt (n : Nat) (hn : 0 < n) (ks : List Nat) : (pick n ks).1 < n := by
  unfold pick
  split
  · exact Nat.div_lt_self hn (by decide)
  · exact Nat.mod_lt _ hn

/-- All the points of a tree. -/
def T.Each (P : α → Nat → Prop) : T α → Prop
  | .nil => True
  | .node p d l r => P p d ∧ l.Each P ∧ r.Each P

/-- On a node's left no number on its plane is above its own, on its right all are. -/
def T.Ord (le : Nat → α → α → Bool) : T α → Prop
  | .nil => True
  | .node p d l r => (∀ x ∈ l.all, le d x p = true) ∧ (∀ x ∈ r.all, le d x p = false) ∧ l.Ord le ∧ r.Ord le

theorem split_at {l : List α} {i : Nat} {p : α} (h : l[i]? = some p) : l.take i ++ p :: l.drop (i + 1) = l := by
  obtain ⟨hi, e⟩ := List.getElem?_eq_some_iff.1 h
  rw [← e, List.getElem_cons_drop, List.take_append_drop]

theorem build_node (le : Nat → α → α → Bool) (dims n : Nat) (l : List α) (ks : List Nat) (d : Nat) (hl : 0 < l.length) (p : α) (hp : l[(pick l.length ks).1]? = some p) :
    ∃ (m : List α) (i : Nat), part (le d) l (pick l.length ks).1 = (m, i) ∧ m.length = l.length ∧ m.Perm l ∧ i < l.length ∧ m[i]? = some p ∧
      (∀ x ∈ m.take i, le d x p = true) ∧ (∀ x ∈ m.drop (i + 1), le d x p = false) ∧
      build le dims (n + 1) l ks d = (.node p d (build le dims n (m.take i) (pick l.length ks).2 ((d + 1) % dims)).1
        (build le dims n (m.drop (i + 1)) (build le dims n (m.take i) (pick l.length ks).2 ((d + 1) % dims)).2 ((d + 1) % dims)).1,
        (build le dims n (m.drop (i + 1)) (build le dims n (m.take i) (pick l.length ks).2 ((d + 1) % dims)).2 ((d + 1) % dims)).2) := by
  obtain ⟨h1, h2, h3, h4, h5, h6⟩ := part_ok (le d) l (pick l.length ks).1 (pick_lt _ hl _) p hp
  generalize hr : part (le d) l (pick l.length ks).1 = r at h1 h2 h3 h4 h5 h6
  obtain ⟨m, i⟩ := r
  simp only at h1 h2 h3 h4 h5 h6
  refine ⟨m, i, rfl, h1, h2, h3, h4, ?_, ?_, ?_⟩
  · intro x hx
    obtain ⟨j, hj, e⟩ := List.mem_iff_getElem.1 hx
    rw [List.length_take] at hj
    refine h5 j x (by omega) ?_
    rw [List.getElem_take] at e
    rw [← e]; exact List.getElem?_eq_getElem _
  · intro x hx
    obtain ⟨j, hj, e⟩ := List.mem_iff_getElem.1 hx
    rw [List.length_drop] at hj
    refine h6 (i + 1 + j) x (by omega) ?_
    rw [List.getElem_drop] at e
    rw [← e]; exact List.getElem?_eq_getElem _
  · conv => lhs; unfold build
    rw [if_neg (by omega)]
    simp only [hr, h4]

theorem build_all (le : Nat → α → α → Bool) (dims : Nat) (hd : 0 < dims) : ∀ (n : Nat) (l : List α) (ks : List Nat) (d : Nat), l.length ≤ n → d < dims →
    (build le dims n l ks d).1.all.Perm l ∧ (build le dims n l ks d).1.Ord le ∧ (build le dims n l ks d).1.Each (fun _ d => d < dims) := by
  intro n
  induction n with
  | zero => intro l ks d hl hdd
            have : l = [] := List.length_eq_zero_iff.1 (by omega)
            subst this; unfold build; exact ⟨List.Perm.refl _, trivial, trivial⟩
  | succ n ih =>
    intro l ks d hl hdd
    by_cases h0 : l.length = 0
    · have : l = [] := List.length_eq_zero_iff.1 h0
      subst this; unfold build; rw [if_pos (by simp)]; exact ⟨List.Perm.refl _, trivial, trivial⟩
    · have hk := pick_lt l.length (by omega) ks
      obtain ⟨m, i, hp, e1, e2, e3, e4, e5, e6, e7⟩ := build_node le dims n l ks d (by omega) _ (List.getElem?_eq_getElem hk)
      rw [e7]
      have hn := Nat.mod_lt (d + 1) hd
      obtain ⟨a1, a2, a3⟩ := ih (m.take i) (pick l.length ks).2 ((d + 1) % dims) (by rw [List.length_take]; omega) hn
      obtain ⟨b1, b2, b3⟩ := ih (m.drop (i + 1)) (build le dims n (m.take i) (pick l.length ks).2 ((d + 1) % dims)).2 ((d + 1) % dims) (by rw [List.length_drop]; omega) hn
      refine ⟨?_, ⟨fun x hx => e5 x (a1.mem_iff.1 hx), fun x hx => e6 x (b1.mem_iff.1 hx), a2, b2⟩, hdd, a3, b3⟩
      simp only [T.all]
      have h := (a1.append (b1.cons l[(pick l.length ks).1]))
      rw [split_at e4] at h
      exact h.trans e2

/-- insert. -/
def ins (le : Nat → α → α → Bool) (dims : Nat) (p : α) : Nat → T α → T α
  | d, .nil => .node p d .nil .nil
  | _, .node q pl l r => if le pl p q then .node q pl (ins le dims p ((pl + 1) % dims) l) r else .node q pl l (ins le dims p ((pl + 1) % dims) r)

def T.rootIs (p : α) : T α → Prop
  | .nil => False
  | .node q _ _ _ => q = p

theorem ins_root (le : Nat → α → α → Bool) (dims : Nat) (p q : α) (d : Nat) (t : T α) (h : t.rootIs q) : (ins le dims p d t).rootIs q := by
  cases t with
  | nil => exact h.elim
  | node a pl l r => unfold ins; split <;> exact h

/-- All inserted. -/
def inss (le : Nat → α → α → Bool) (dims : Nat) (t : T α) (ps : List α) : T α := ps.foldl (fun t p => ins le dims p 0 t) t

theorem inss_root (le : Nat → α → α → Bool) (dims : Nat) (q : α) : ∀ (ps : List α) (t : T α), t.rootIs q → (inss le dims t ps).rootIs q := by
  intro ps
  induction ps with
  | nil => intro t h; exact h
  | cons p ps ih => intro t h; exact ih _ (ins_root le dims p q 0 t h)

theorem build_root (le : Nat → α → α → Bool) (dims n : Nat) (l : List α) (ks : List Nat) (hl : 0 < l.length) (p : α) (hp : l[(pick l.length ks).1]? = some p) : (build le dims (n + 1) l ks 0).1.rootIs p := by
  obtain ⟨m, i, _, _, _, _, _, _, _, e7⟩ := build_node le dims n l ks 0 hl p hp
  rw [e7]; rfl

end Lox.KB

namespace Go.Proofs.Ytmeooadgdagiiaa
open Go.RowKit Lox
set_option linter.unusedVariables false
attribute [local go_sem] run_store_flt run_store_fn undef

/-- A point as it lies in the array: its slice and the numbers' bits. -/
structure TP where
  A : Option Addr
  c : Nat
  xs : List Nat

def TP.v (p : TP) : Value := .slice p.A p.xs.length p.c

/-- The array's block: the points, and whatever stands behind them. -/
def TPs (w : World) (pb : Nat) (ps : List TP) : Prop := ∃ rest, Blk w pb 73 (ps.map TP.v ++ rest)

theorem TPs.lt {w : World} {pb : Nat} {ps : List TP} (h : TPs w pb ps) : pb < w.heap.size := by obtain ⟨rest, h⟩ := h; exact h.lt

theorem TPs.at {w : World} {pb i : Nat} {ps : List TP} {p : TP} (h : TPs w pb ps) (hp : ps[i]? = some p) : w.cell? ⟨pb, i, none⟩ = some p.v := by
  obtain ⟨rest, h⟩ := h
  have hl := (List.getElem?_eq_some_iff.1 hp).1
  exact h.at (by rw [List.getElem?_append_left (by simpa using hl), List.getElem?_map, hp]; rfl)

theorem TPs.frozen {w : World} {pb : Nat} {ps : List TP} (h : TPs w pb ps) (i : Nat) : w.frozen? ⟨pb, i, none⟩ = false := by obtain ⟨rest, h⟩ := h; exact h.frozen i

theorem TPs.mod {w w' : World} {pb : Nat} {ps : List TP} {S : Nat → Prop} (h : TPs w pb ps) (hm : Mod S w w') (hS : ¬ S pb) : TPs w' pb ps := by obtain ⟨rest, h⟩ := h; exact ⟨rest, h.mod hm hS⟩

theorem TPs.set {w : World} {pb : Nat} {ps : List TP} (h : TPs w pb ps) (i : Nat) (hi : i < ps.length) (p : TP) : TPs (w.setCell ⟨pb, i, none⟩ p.v) pb (ps.set i p) := by
  obtain ⟨rest, h⟩ := h
  refine ⟨rest, ?_⟩
  have := Blk.set h i p.v
  rw [List.set_append_left _ _ (by simpa using hi)] at this
  rw [List.map_set]
  exact this

theorem TPs.alloc {w : World} {pb : Nat} {ps : List TP} (h : TPs w pb ps) (x : Obj) : TPs (w.alloc x) pb ps := by obtain ⟨rest, h⟩ := h; exact ⟨rest, h.alloc x⟩

theorem TPs.drew {w : World} {pb : Nat} {ps : List TP} (h : TPs w pb ps) : TPs w.drew pb ps := h

theorem swp_set {α : Type} {l : List α} {i j : Nat} {a b : α} (hi : l[i]? = some a) (hj : l[j]? = some b) : KB.swp l i j = (l.set i b).set j a := by
  unfold KB.swp
  rw [hi, hj]

set_option maxHeartbeats 4000000 in
theorem pswap_at (w : World) (d : Int) (pb o n c : Nat) (ps : List TP) (i j : Nat) (I J : Int) (hI : I = i) (hJ : J = j) (h : TPs w pb ps) (hi : i < n) (hj : j < n) (hn : o + n ≤ ps.length) (hl : ps.length ≤ 1099511627776) (hc : n ≤ c) :
    Calls Try.prog 156 #[.agg #[.int .i64 d, .slice (some ⟨pb, o, none⟩) n c], .int .i64 I, .int .i64 J] w fun e w' => e = .returned (.tuple #[]) ∧ TPs w' pb (KB.swp ps (o + i) (o + j)) ∧ Mod (fun k => k = pb) w w' := by
  subst hI hJ
  obtain ⟨p, hp⟩ : ∃ p, ps[o + i]? = some p := ⟨_, List.getElem?_eq_getElem (by omega)⟩
  obtain ⟨q, hq⟩ : ∃ q, ps[o + j]? = some q := ⟨_, List.getElem?_eq_getElem (by omega)⟩
  rw [swp_set hp hq]
  have c1 : w.cell? ⟨pb, o + i, none⟩ = some p.v := TPs.at h hp
  have c2 : w.cell? ⟨pb, o + j, none⟩ = some q.v := TPs.at h hq
  have f1 : w.frozen? ⟨pb, o + i, none⟩ = false := TPs.frozen h _
  have f2 : w.frozen? ⟨pb, o + j, none⟩ = false := TPs.frozen h _
  have i1 : (0 : Int) ≤ i := by omega
  have i2 : (i : Int) < n := by omega
  have j1 : (0 : Int) ≤ j := by omega
  have j2 : (j : Int) < n := by omega
  have lt := TPs.lt h
  have HH := Lib.hid h
  clear h
  unfold TP.v at c1 c2
  by_cases hij : i = j
  · subst hij
    obtain rfl : p = q := by have e := hp.symm.trans hq; cases e; rfl
    clear hq hp
    go_enter Try.func156, Try.ntmps156
    go_wp2
    go_region
    all_goals
      have hK := (((HH.out.set (o + i) (by omega) p).set (o + i) (by rw [List.length_set]; omega) p)).alloc (Obj.cells #[Value.int IntKind.i64 d, Value.slice (some { block := pb, off := o }) n c] 209) |>.drew
      have hM := ((((Mod.refl (fun k => k = pb) w).set (p := ⟨pb, o + i, none⟩) (Or.inl rfl) (.slice p.A p.xs.length p.c)).set (p := ⟨pb, o + i, none⟩) (Or.inl rfl) (.slice p.A p.xs.length p.c)).alloc (Obj.cells #[Value.int IntKind.i64 d, Value.slice (some { block := pb, off := o }) n c] 209)).drew
      refine bodyPost_end (by simp [results, Try.results156, go_sem]) rfl ⟨rfl, hK, hM⟩
  · have n1 : o + i ≠ o + j := by omega
    have n2 : o + j ≠ o + i := by omega
    clear hij hp hq
    go_enter Try.func156, Try.ntmps156
    go_wp2
    go_region
    all_goals
      have hK := (((HH.out.set (o + i) (by omega) q).set (o + j) (by rw [List.length_set]; omega) p)).alloc (Obj.cells #[Value.int IntKind.i64 d, Value.slice (some { block := pb, off := o }) n c] 209) |>.drew
      have hM := ((((Mod.refl (fun k => k = pb) w).set (p := ⟨pb, o + i, none⟩) (Or.inl rfl) (.slice q.A q.xs.length q.c)).set (p := ⟨pb, o + j, none⟩) (Or.inl rfl) (.slice p.A p.xs.length p.c)).alloc (Obj.cells #[Value.int IntKind.i64 d, Value.slice (some { block := pb, off := o }) n c] 209)).drew
      refine bodyPost_end (by simp [results, Try.results156, go_sem]) rfl ⟨rfl, hK, hM⟩
end Go.Proofs.Ytmeooadgdagiiaa

namespace Go.Proofs.Ytmeooadgdagiiaa
open Go.RowKit Lox
set_option linter.unusedVariables false
attribute [local go_sem] run_store_flt run_store_fn

/-- The bits of a point's number. -/
def TP.n (p : TP) (d : Nat) : Nat := (p.xs[d]?).getD 0

/-- x's number on plane d is not above p's, by bits: the program's '!Less(p, x)'. -/
def leB (d : Nat) (x p : TP) : Bool := !(FloatKind.f64.format.order (p.n d) (x.n d) == some .lt)

/-- A point that can be read. -/
def TP.Ok (w : World) (dims : Nat) (p : TP) : Prop := p.xs.length = dims ∧ Sl w p.A p.xs.length 1 (flts p.xs)

set_option maxHeartbeats 4000000 in
theorem pless_at (w : World) (dims d pb o n c : Nat) (ps : List TP) (i j : Nat) (I J D : Int) (hI : I = i) (hJ : J = j) (hD : D = d) (h : TPs w pb ps) (hi : i < n) (hj : j < n) (hn : o + n ≤ ps.length) (hl : ps.length ≤ 1099511627776) (hc : n ≤ c) (hd : d < dims) (hdm : dims ≤ 1099511627776)
    (p q : TP) (hp : ps[o + i]? = some p) (hq : ps[o + j]? = some q) (ho : p.Ok w dims ∧ q.Ok w dims) :
    Calls Try.prog 155 #[.agg #[.int .i64 D, .slice (some ⟨pb, o, none⟩) n c], .int .i64 I, .int .i64 J] w fun e w' => e = .returned (.bool (!leB d q p)) ∧ Mod (fun _ => False) w w' := by
  subst hI hJ hD
  have c1 : w.cell? ⟨pb, o + i, none⟩ = some p.v := TPs.at h hp
  have c2 : w.cell? ⟨pb, o + j, none⟩ = some q.v := TPs.at h hq
  obtain ⟨l1, s1, z1⟩ := ho.1
  obtain ⟨l2, s2, z2⟩ := ho.2
  rw [l1] at z1
  rw [l2] at z2
  obtain ⟨b1, o1, e1, r1⟩ := z1 (by omega)
  obtain ⟨b2, o2, e2, r2⟩ := z2 (by omega)
  have k1 : w.cell? ⟨b1, o1 + d, none⟩ = some (.float .f64 (p.n d)) := r1 d _ (by
    have hh : d < p.xs.length := by omega
    simp [flts, TP.n, hh])
  have k2 : w.cell? ⟨b2, o2 + d, none⟩ = some (.float .f64 (q.n d)) := r2 d _ (by
    have hh : d < q.xs.length := by omega
    simp [flts, TP.n, hh])
  have i1 : (0 : Int) ≤ i := by omega
  have i2 : (i : Int) < n := by omega
  have j1 : (0 : Int) ≤ j := by omega
  have j2 : (j : Int) < n := by omega
  have d1 : (0 : Int) ≤ d := by omega
  have d2 : (d : Int) < dims := by omega
  have lt := TPs.lt h
  have lt1 := lt_of_cell k1
  have lt2 := lt_of_cell k2
  unfold TP.v at c1 c2
  rw [l1, e1] at c1
  rw [l2, e2] at c2
  have hres : (!leB d q p) = (FloatKind.f64.format.order (p.n d) (q.n d) == some .lt) := by unfold leB; rw [Bool.not_not]
  rw [hres]
  clear h ho hp hq s1 s2 z1 z2 r1 r2 hres e1 e2
  generalize p.n d = x at k1 ⊢
  generalize q.n d = y at k2 ⊢
  go_enter Try.func155, Try.ntmps155
  go_wp2
  go_region
  all_goals (go_wp2; go_ret)
  all_goals exact ⟨rfl, ((Mod.refl _ w).alloc _).drew⟩
end Go.Proofs.Ytmeooadgdagiiaa

namespace Lox
open Go Go.RowKit
set_option linter.unusedVariables false

/-- A finite float number, by its bits. -/
def Fin (x : Nat) : Prop := ∃ s m i, FloatKind.f64.decode x = .number s m i

/-- Its value, as a multiple of the least one. -/
def fk (x : Nat) : Int := match FloatKind.f64.decode x with
  | .number s m i => Ieee.signed s m (i + 1074).toNat
  | _ => 0

theorem read_place {x : Nat} {s : Bool} {m : Nat} {i : Int} (h : FloatKind.f64.decode x = .number s m i) : -1074 ≤ i := by
  unfold FloatKind.decode Ieee.Format.read at h
  have e : FloatKind.f64.format.leastPlace = -1074 := rfl
  simp only [e] at h
  split at h
  · cases h; omega
  · split at h
    · cases h; omega
    · split at h <;> cases h

theorem signed_shift (s : Bool) (m a b : Nat) : Ieee.signed s m (a + b) = Ieee.signed s m a * (2 ^ b : Nat) := by
  unfold Ieee.signed
  have : m <<< (a + b) = (m <<< a) * 2 ^ b := by
    rw [Nat.shiftLeft_eq, Nat.shiftLeft_eq, Nat.pow_add, Nat.mul_assoc]
  cases s
  · simp [this]
  · simp [this, Int.neg_mul]

theorem compare_mul (a b : Int) (k : Nat) (hk : 0 < k) : compare (a * (k : Int)) (b * (k : Int)) = compare a b := by
  have hk' : (0 : Int) < k := by omega
  simp only [compare, compareOfLessAndEq]
  have h1 : (a * (k : Int) < b * (k : Int)) ↔ a < b := ⟨fun h => Int.lt_of_mul_lt_mul_right h (by omega), fun h => Int.mul_lt_mul_of_pos_right h hk'⟩
  have h2 : (a * (k : Int) = b * (k : Int)) ↔ a = b := ⟨fun h => Int.eq_of_mul_eq_mul_right (by omega) h, fun h => by rw [h]⟩
  simp only [h1, h2]

/-- Two finite numbers stand as their values do. -/
theorem order_fk {x y : Nat} (hx : Fin x) (hy : Fin y) : FloatKind.f64.format.order x y = some (compare (fk x) (fk y)) := by
  obtain ⟨s, m, i, ex⟩ := hx
  obtain ⟨t, n, j, ey⟩ := hy
  have hi := read_place ex
  have hj := read_place ey
  have ex' : FloatKind.f64.format.read x = .number s m i := ex
  have ey' : FloatKind.f64.format.read y = .number t n j := ey
  unfold Ieee.Format.order fk
  rw [ex, ey, ex', ey']
  simp only [Ieee.Datum.order]
  have e1 : (i + 1074).toNat = (i - min i j).toNat + (min i j + 1074).toNat := by omega
  have e2 : (j + 1074).toNat = (j - min i j).toNat + (min i j + 1074).toNat := by omega
  rw [e1, e2, signed_shift, signed_shift, compare_mul _ _ _ (Nat.two_pow_pos _)]

theorem ord_lt {x y : Nat} (hx : Fin x) (hy : Fin y) : (FloatKind.f64.format.order x y == some .lt) = decide (fk x < fk y) := by
  rw [order_fk hx hy]
  simp only [compare, compareOfLessAndEq]
  by_cases h : fk x < fk y
  · simp [h]
  · by_cases h2 : fk x = fk y <;> simp [h, h2]

theorem ord_gt {x y : Nat} (hx : Fin x) (hy : Fin y) : (FloatKind.f64.format.order x y == some .gt) = decide (fk y < fk x) := by
  rw [order_fk hx hy]
  simp only [compare, compareOfLessAndEq]
  by_cases h : fk x < fk y
  · simp [h]; omega
  · by_cases h2 : fk x = fk y
    · simp [h2]
    · simp [h, h2]; omega

theorem ord_eq {x y : Nat} (hx : Fin x) (hy : Fin y) : (FloatKind.f64.format.order x y == some .eq) = decide (fk x = fk y) := by
  rw [order_fk hx hy]
  simp only [compare, compareOfLessAndEq]
  by_cases h : fk x < fk y
  · simp [h]; omega
  · by_cases h2 : fk x = fk y <;> simp [h, h2]

theorem ord_le {x y : Nat} (hx : Fin x) (hy : Fin y) : (FloatKind.f64.format.order x y == some .lt || FloatKind.f64.format.order x y == some .eq) = decide (fk x ≤ fk y) := by
  rw [ord_lt hx hy, ord_eq hx hy]
  by_cases h : fk x ≤ fk y
  · simp [h]; omega
  · simp [h]; omega

theorem ord_ge {x y : Nat} (hx : Fin x) (hy : Fin y) : (FloatKind.f64.format.order x y == some .gt || FloatKind.f64.format.order x y == some .eq) = decide (fk y ≤ fk x) := by
  rw [ord_gt hx hy, ord_eq hx hy]
  by_cases h : fk y ≤ fk x
  · simp [h]; omega
  · simp [h]; omega

/-- What stands between two finite numbers is finite. -/
theorem fin_between {x lo hi : Nat} (hlo : Fin lo) (hhi : Fin hi) (h1 : (FloatKind.f64.format.order x lo == some .gt || FloatKind.f64.format.order x lo == some .eq) = true) (h2 : (FloatKind.f64.format.order x hi == some .lt || FloatKind.f64.format.order x hi == some .eq) = true) : Fin x := by
  obtain ⟨s, m, i, el⟩ := hlo
  obtain ⟨t, n, j, eh⟩ := hhi
  have el' : FloatKind.f64.format.read lo = .number s m i := el
  have eh' : FloatKind.f64.format.read hi = .number t n j := eh
  unfold Ieee.Format.order at h1 h2
  rw [el'] at h1
  rw [eh'] at h2
  cases hx : FloatKind.f64.decode x with
  | number s' m' i' => exact ⟨s', m', i', hx⟩
  | infinity s' =>
    have hx' : FloatKind.f64.format.read x = .infinity s' := hx
    rw [hx'] at h1 h2
    cases s' <;> simp [Ieee.Datum.order] at h1 h2
  | nan s' t' =>
    have hx' : FloatKind.f64.format.read x = .nan s' t' := hx
    rw [hx'] at h1
    simp [Ieee.Datum.order] at h1

theorem fin_decide {x : Nat} {s : Bool} {m : Nat} {i : Int} (h : FloatKind.f64.decode x = .number s m i) : Fin x := ⟨s, m, i, h⟩
end Lox
