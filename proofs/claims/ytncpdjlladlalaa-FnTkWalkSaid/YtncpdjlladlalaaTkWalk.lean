/- The walks of the reference's Walk and VWalk. Conditions: as each says. -/
import Derived.Test.YtncpdjlladlalaaTkFrom
import Derived.Deep.OwnRows
namespace Go.Proofs.Ytncpdjlladlalaa
open Go.RowKit Lox
set_option linter.unusedVariables false
attribute [local go_sem] run_store_flt run_store_fn

theorem info_bool : (Try.prog.info? 4).map (fun i => (i.zero, i.size, i.bytes)) = some (some (.bool false), 1, 1) := by kernel_rfl

theorem made_bools (n : Nat) : (madeCells #[.bool false] n).toList = (List.replicate n false).map Value.bool := by
  have : madeCells #[.bool false] n = (List.replicate n (Value.bool false)).toArray := by
    apply Array.ext
    · simp [madeCells]
    · intro i h1 h2
      simp [madeCells, Nat.mod_one]
  rw [this]
  simp

theorem blk_new_at {w : World} {b : Nat} (h : w.heap.size = b) (c : Array Value) (T : TypeId) {xs : List Value} (hx : c.toList = xs) : Blk (w.alloc (.cells c T)) b T xs := by
  subst h hx
  exact Blk.new' w c T

theorem own_sl {w : World} {B : Nat} {e : TypeId} {v : Value} {n : Nat} {xs : List Value} (h : w.ownsRow B e 1 v n xs) : ∃ A cap, v = .slice A n cap ∧ Sl w A n 1 xs := by
  rcases h.2 with ⟨rfl, h0⟩ | ⟨g, cap, cur, e1, hb, hg, hc⟩
  · subst h0
    exact ⟨none, 0, rfl, by have := h.1; simpa using this, fun h => by omega⟩
  · refine ⟨some ⟨g, 0, none⟩, cap, e1, h.1, fun _ => ⟨g, 0, rfl, fun j u hu => ?_⟩⟩
    have := h.cells (g := g) (by rw [e1]; rfl) j u hu
    rw [addr_lit] at this
    exact this

theorem ws_init (w : World) (H n : Nat) (sd : Value) (hH : w.heap.size = H) : WS H n sd w ((((((((w.alloc (.cells #[.int .i64 n] 3)).alloc (.cells #[sd] 54)).alloc (.cells #[.slice none 0 0] 24)).alloc (.cells #[.slice none 0 0] 24)).alloc (.cells #[.bool true] 4)).alloc (.cells (madeCells #[.bool false] n) 4)).alloc (.cells #[.slice (some ⟨H + 5, 0, none⟩) n n] 97)).alloc (.cells #[fromV H] 98)) true [] [] (List.replicate n false) := by
  have hs : ∀ (w : World) (o : Obj) (k : Nat), w.heap.size = k → (w.alloc o).heap.size = k + 1 := fun w o k h => by rw [World.size_alloc, h]
  have s1 := hs w (.cells #[.int .i64 n] 3) H hH
  have s2 := hs _ (.cells #[sd] 54) _ s1
  have s3 := hs _ (.cells #[.slice none 0 0] 24) _ s2
  have s4 := hs _ (.cells #[.slice none 0 0] 24) _ s3
  have s5 := hs _ (.cells #[.bool true] 4) _ s4
  have s6 := hs _ (.cells (madeCells #[.bool false] n) 4) _ s5
  have s7 := hs _ (.cells #[.slice (some ⟨H + 5, 0, none⟩) n n] 97) _ s6
  have s8 := hs _ (.cells #[fromV H] 98) _ s7
  refine ⟨((((((((Below.refl _ _).alloc (by omega) _).alloc (by omega) _).alloc (by omega) _).alloc (by omega) _).alloc (by omega) _).alloc (by omega) _).alloc (by omega) _).alloc (by omega) _, by omega, ?_, ?_, ?_, ?_, ?_, ?_, by simp, .slice none 0 0, .slice none 0 0, ?_, ?_, ⟨World.ownsRow_nil _ _ _ _, World.ownsRow_nil _ _ _ _, fun k h => by cases h⟩⟩
  · exact (((((((blk_new_at hH _ _ rfl).alloc _).alloc _).alloc _).alloc _).alloc _).alloc _).alloc _
  · exact ((((((blk_new_at s1 _ _ rfl).alloc _).alloc _).alloc _).alloc _).alloc _).alloc _
  · exact (((blk_new_at s4 _ _ rfl).alloc _).alloc _).alloc _
  · exact ((blk_new_at s5 _ _ (made_bools n)).alloc _).alloc _
  · exact (blk_new_at s6 _ _ rfl).alloc _
  · exact (blk_new_at s7 _ _ rfl)
  · exact (((((blk_new_at s2 _ _ rfl).alloc _).alloc _).alloc _).alloc _).alloc _
  · exact ((((blk_new_at s3 _ _ rfl).alloc _).alloc _).alloc _).alloc _

theorem own_sl2 {w : World} {B : Nat} {e : TypeId} {A : Option Addr} {c n : Nat} {xs : List Value} (h : w.ownsRow B e 1 (.slice A n c) n xs) : Sl w A n 1 xs := by
  obtain ⟨A', c', e, h'⟩ := own_sl h
  cases e
  exact h'

/-- The end of the walk: the results stand in their variables. -/
theorem walk_end {H n : Nat} {sd : Value} {w w1 : World} {ok : Bool} {os ds : List Int} {bs : List Bool} {v1 v2 : Value} (hW : WS H n sd w w1 ok os ds bs) (hH : w.heap.size = H)
    (b1 : Blk w1 (H + 2) 24 [v1]) (b2 : Blk w1 (H + 3) 24 [v2]) (h2 : Two (H + 8) w1 v1 v2 os ds) (g : Bool) :
    ∃ W, W = (((w1.setCell ⟨H + 2, 0, none⟩ v1).setCell ⟨H + 3, 0, none⟩ v2).setCell ⟨H + 4, 0, none⟩ (.bool g)).drew ∧ Mod (fun _ => False) w W ∧ Two (H + 8) W v1 v2 os ds ∧
      W.cell? ⟨H + 2, 0, none⟩ = some v1 ∧ W.cell? ⟨H + 3, 0, none⟩ = some v2 ∧ W.cell? ⟨H + 4, 0, none⟩ = some (.bool g) := by
  refine ⟨_, rfl, ?_, ?_, ?_, ?_, ?_⟩
  · have := hW.bel
    rw [← hH] at this
    exact ((((Mod.ofBelow this).set (.inr (by show w.heap.size ≤ H + 2; omega)) _).set (.inr (by show w.heap.size ≤ H + 3; omega)) _).set (.inr (by show w.heap.size ≤ H + 4; omega)) _).drew
  · exact h2.keep fun k hk _ => (Below.heap_setCell _ _ _ _ (by show k ≠ H + 4; omega)).trans ((Below.heap_setCell _ _ _ _ (by show k ≠ H + 3; omega)).trans (Below.heap_setCell _ _ _ _ (by show k ≠ H + 2; omega)))
  · exact ((((b1.set 0 v1).other _ (by show H + 3 ≠ H + 2; omega)).other _ (by show H + 4 ≠ H + 2; omega)).drew).at (i := 0) rfl
  · exact ((((b2.other _ (by show H + 2 ≠ H + 3; omega)).set 0 v2).other _ (by show H + 4 ≠ H + 3; omega)).drew).at (i := 0) rfl
  · exact ((((hW.bok.other _ (by show H + 2 ≠ H + 4; omega)).other _ (by show H + 3 ≠ H + 4; omega)).set 0 (.bool g)).drew).at (i := 0) rfl

/-- What the reference's walk tells: where it says yes, the nodes in order, and their depths. -/
def WalkTold (n : Nat) (C F : Nat → Int) (w : World) (e : Ending) (w' : World) : Prop :=
  ∃ A1 c1 m A2 c2 os ds b, e = .returned (.tuple #[.slice A1 m c1, .slice A2 m c2, .bool b]) ∧ Mod (fun _ => False) w w' ∧ Sl w' A1 m 1 (ints os) ∧ Sl w' A2 m 1 (ints ds) ∧
    (b = true → 0 < n → m = n ∧ os = (ino C F n 0 0).map (·.1) ∧ ds = (ino C F n 0 0).map (·.2))

set_option maxHeartbeats 4000000 in
theorem walk_at (T : Option Addr) (c : Nat) (xs : List KN) (pt n : Nat) (w : World) (hn : n = xs.length) (h0 : 0 < n) (hn2 : n ≤ 2147483647) (hb0 : Blk w pt 37 [.slice T xs.length c]) (hN : KNodes w T xs) :
    Calls Try.prog 24 #[.int .i64 n, .func (Fn.func 33) #[] #[.pointer (some ⟨pt, 0, none⟩)]] w (WalkTold n (KC xs) (KF xs) w) := by
  have hmk := run_make_row' (P := Try.prog) 97 4 (.bool false) 1 Try.underlying97 info_bool rfl .i64 .i64 n (by omega) (by omega)
  have HC : Hid (Blk w pt 37 [.slice T xs.length c] ∧ KNodes w T xs ∧ n = xs.length) := ⟨hb0, hN, hn⟩
  clear hb0 hN hn
  go_enter Try.func24, Try.ntmps24
  go_wp2_with (go_at_call 52; refine (from_at T c xs pt w.heap.size n w rfl HC.out.2.2 hn2 HC.out.1 HC.out.2.1 (n + 1) 0 (-1) 0 _ true [] [] (List.replicate n false) _ (ws_init w w.heap.size n (sdV pt) rfl) (by omega) (by omega) (by omega) (by omega) rfl (by simp) rfl).mono ?_; rintro _ w1 ⟨rfl, ok, os, ds, bs, hW1, hc1, hl1, hr1⟩)
  obtain ⟨v1, v2, b1, b2, h2r⟩ := hW1.rows
  obtain ⟨A1, c1, rfl, hs1⟩ := own_sl h2r.o1
  obtain ⟨A2, c2, rfl, hs2⟩ := own_sl h2r.o2
  have cO : w1.cell? ⟨w.heap.size + 1 + 1, 0, none⟩ = some (.slice A1 os.length c1) := b1.at (i := 0) rfl
  have cD : w1.cell? ⟨w.heap.size + 1 + 1 + 1, 0, none⟩ = some (.slice A2 ds.length c2) := b2.at (i := 0) rfl
  have cK : w1.cell? ⟨w.heap.size + 1 + 1 + 1 + 1, 0, none⟩ = some (.bool ok) := hW1.bok.at (i := 0) rfl
  have cN : w1.cell? ⟨w.heap.size, 0, none⟩ = some (.int .i64 n) := hW1.bn.at (i := 0) rfl
  have fO : w1.frozen? ⟨w.heap.size + 1 + 1, 0, none⟩ = false := b1.frozen 0
  have fD : w1.frozen? ⟨w.heap.size + 1 + 1 + 1, 0, none⟩ = false := b2.frozen 0
  have fK : w1.frozen? ⟨w.heap.size + 1 + 1 + 1 + 1, 0, none⟩ = false := hW1.bok.frozen 0
  obtain ⟨m, hm⟩ : ∃ m, m = os.length := ⟨_, rfl⟩
  obtain ⟨m2, hm2⟩ : ∃ m, m = ds.length := ⟨_, rfl⟩
  have HL := Lib.hid (And.intro hm (And.intro hm2 hl1))
  rw [← hm] at cO
  rw [← hm2] at cD
  have HE : Hid (∀ g : Bool, ∃ W, W = (((w1.setCell ⟨w.heap.size + 1 + 1, 0, none⟩ (.slice A1 m c1)).setCell ⟨w.heap.size + 1 + 1 + 1, 0, none⟩ (.slice A2 m2 c2)).setCell ⟨w.heap.size + 1 + 1 + 1 + 1, 0, none⟩ (.bool g)).drew ∧ Mod (fun _ => False) w W ∧ Two (w.heap.size + 8) W (.slice A1 m c1) (.slice A2 m2 c2) os ds ∧
      W.cell? ⟨w.heap.size + 1 + 1, 0, none⟩ = some (.slice A1 m c1) ∧ W.cell? ⟨w.heap.size + 1 + 1 + 1, 0, none⟩ = some (.slice A2 m2 c2) ∧ W.cell? ⟨w.heap.size + 1 + 1 + 1 + 1, 0, none⟩ = some (.bool g)) := by
    show ∀ g : Bool, _
    rw [hm, hm2]
    exact walk_end hW1 rfl b1 b2 h2r
  have HR := Lib.hid hr1
  clear hm hm2 hl1 hs1 hs2 h2r b1 b2 hW1 hr1
  cases ok with
  | false =>
    go_region
    obtain ⟨W, eW, hM, hT, e1, e2, e3⟩ := HE.out false
    rw [← eW]
    clear eW
    go_wp2_with fail
    refine bodyPost_ret (v := .tuple #[.slice A1 m c1, .slice A2 m2 c2, .bool false]) (by simp [results, Try.results24, go_sem, e1, e2, e3]) rfl ?_
    obtain ⟨hmo, hmd, hl⟩ := HL.out
    obtain rfl : m2 = m := by omega
    have ho := hT.o1
    have hd := hT.o2
    rw [← hmo] at ho
    rw [← hmd] at hd
    exact ⟨A1, c1, m2, A2, c2, os, ds, false, rfl, hM, own_sl2 ho, own_sl2 hd, fun h => by cases h⟩
  | true =>
    obtain ⟨g, hg⟩ : ∃ g : Bool, ((m : Int) == (n : Int)) = g := ⟨_, rfl⟩
    go_region
    obtain ⟨W, eW, hM, hT, e1, e2, e3⟩ := HE.out g
    rw [← eW]
    clear eW
    go_wp2_with fail
    refine bodyPost_ret (v := .tuple #[.slice A1 m c1, .slice A2 m2 c2, .bool g]) (by simp [results, Try.results24, go_sem, e1, e2, e3]) rfl ?_
    obtain ⟨hmo, hmd, hl⟩ := HL.out
    obtain rfl : m2 = m := by omega
    have ho := hT.o1
    have hd := hT.o2
    rw [← hmo] at ho
    rw [← hmd] at hd
    refine ⟨A1, c1, m2, A2, c2, os, ds, g, rfl, hM, own_sl2 ho, own_sl2 hd, fun h hn => ?_⟩
    rw [h] at hg
    obtain ⟨_, _, ho1, hd1⟩ := HR.out (by trivial)
    have hch : chl (KC xs) (KF xs) n 0 (-1) 0 = ino (KC xs) (KF xs) n 0 0 := by
      unfold chl
      rw [if_pos ⟨by omega, by omega⟩]
      rfl
    rw [hch] at ho1 hd1
    exact ⟨by have := eq_of_beq hg; omega, by simpa using ho1, by simpa using hd1⟩

set_option maxHeartbeats 4000000 in
theorem vwalk_at (T : Option Addr) (c n : Nat) (xs : List KN) (w : World) (hn : n = xs.length) (h0 : 0 < n) (hn2 : n ≤ 2147483647) (hN : KNodes w T xs) :
    Calls Try.prog 14 #[.slice T n c] w (WalkTold n (KC xs) (KF xs) w) := by
  have HC : Hid (KNodes w T xs ∧ n = xs.length) := ⟨hN, hn⟩
  clear hN hn
  go_enter Try.func14, Try.ntmps14
  go_wp2_with (go_at_call 24; refine (walk_at T c xs w.heap.size n _ HC.out.2 h0 hn2 (by rw [← HC.out.2]; exact blk_new_at rfl _ _ rfl) (HC.out.1.mod ((Mod.refl _ _).alloc _))).mono ?_; rintro _ w1 ⟨A1, c1, m, A2, c2, os, ds, b, rfl, hM, hs1, hs2, hb⟩)
  exact bodyPost_ret (v := .tuple #[.slice A1 m c1, .slice A2 m c2, .bool b]) (by simp [results, Try.results14, go_sem]) rfl ⟨A1, c1, m, A2, c2, os, ds, b, rfl, ((Mod.refl _ _).alloc _).trans hM, hs1, hs2, hb⟩
end Go.Proofs.Ytncpdjlladlalaa
