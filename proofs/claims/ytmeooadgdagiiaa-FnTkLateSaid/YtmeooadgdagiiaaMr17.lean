/- Steps of a proof, one behind another: The walks of vtree and of the thin package's VWalk. Conditions: as each theorem says. -/
import Derived.Test.YtmeooadgdagiiaaMr16
import Derived.Deep.RegionLaw
import Derived.Deep.RegionHeld3
import Derived.Deep.DrawnRows

namespace Go.Proofs.Ytmeooadgdagiiaa.W
open Go.RowKit Lox
set_option linter.unusedVariables false
attribute [local go_sem] run_store_flt run_store_fn
attribute [local go_sem ↓] Go.wp_at_zero Go.wp_at_succ

set_option maxHeartbeats 1000000 in
theorem ktree_at (T : Option Addr) (c n : Nat) (xs : List KN) (w : World) (hn : n = xs.length) (hP : ∀ x ∈ xs, (0 < x.p.n ∧ x.p.n ≤ 4) ∧ (x.mn.n = 0 ∨ (0 < x.mn.n ∧ x.mn.n ≤ 4 ∧ 0 < x.mx.n ∧ x.mx.n ≤ 4))) (hN : KNodes w T xs) :
    Calls Try.prog 42 #[.slice T n c, .int .i64 0] w fun e w' => ∃ (t : BT) (v : Value) (tb : Nat), e = .returned (.pointer (some ⟨tb, 0, none⟩)) ∧ Blk w' tb 79 [v, .int .i64 n] ∧ t.In w.heap.size w' v ∧ Mod (fun _ => False) w w' ∧ w.heap.size ≤ tb ∧ ∀ d : Nat, t.visit d = (chl (KC xs) (KF xs) n 0 (-1) d).map fun p => (PX xs p.1, p.2) := by
  have HN := Lib.hid (And.intro hN (And.intro hn hP))
  clear hN hn hP
  go_enter Try.func42, Try.ntmps42
  go_wp2_with (go_at_call 66; refine (knode_at T c n xs HN.out.2.1 HN.out.2.2 n 0 0 w rfl HN.out.1 (by omega)).mono ?_; rintro _ w1 ⟨t, v, rfl, ht, hm, hv⟩; obtain ⟨q, rfl⟩ := ht.ptr)
  go_ret
  exact ⟨t, .pointer q, w1.heap.size, rfl, Blk.new' _ _ _, ht.mod (Nat.le_refl _) ((Mod.refl _ _).alloc _), hm.alloc _, hm.size, hv⟩

theorem catch_idle4 (p q r s : Addr) (w : World) :
    CallsD Try.prog 41 #[.pointer (some p), .pointer (some q), .pointer (some r), .pointer (some s)] .returning w fun e u' w' => e = .returned (.tuple #[]) ∧ u' = .returning ∧ w' = w := by
  refine callsD_of_wpS Try.func41 rfl fun c₀ cs hu => ?_
  apply wpS_seq
  apply wpS_region
  simp [wpOpsS, go_sem, recoverD, hu, Try.ntmps41, Exit.thenS]
  refine wpS_cond (t := false) (by simp [Act.eval, Array.replicate]) ?_
  simp only [Bool.false_eq_true, if_false]
  refine wpS_of_wp (wp_skip ?_)
  cases c₀
  simp_all [bodyPostS, results, Try.results41]

/-- The points of a list, as they are handed back. -/
def PtsAt (w : World) (gs : List Value) (ls : List (List Nat)) : Prop :=
  gs.length = ls.length ∧ ∀ (i : Nat) (v : Value) (xs : List Nat), gs[i]? = some v → ls[i]? = some xs → ∃ A n c, v = .slice A n c ∧ n ≤ 1099511627776 ∧ Sl w A n 1 (flts xs)

/-- What the thin package's walk tells. -/
def VwTold (stop : Int) (L : List (List Nat × Int)) (w : World) (e : Ending) (w' : World) : Prop :=
  ∃ A1 c1 A2 c2 gs, e = .returned (.tuple #[.slice A1 (cut stop L).length c1, .slice A2 (cut stop L).length c2, .bool (stopped stop L), .bool true]) ∧ Mod (fun _ => False) w w' ∧
    Sl w' A1 (cut stop L).length 1 gs ∧ PtsAt w' gs ((cut stop L).map (·.1)) ∧ Sl w' A2 (cut stop L).length 1 (ints ((cut stop L).map (·.2)))

theorem init5 (w : World) (H : Nat) (stop : Int) (hH : w.heap.size = H) : ∃ W, W = (((((w.alloc (.cells #[.int .i64 stop] 3)).alloc (.cells #[.slice none 0 0] 22)).alloc (.cells #[.slice none 0 0] 23)).alloc (.cells #[.bool false] 4)).alloc (.cells #[.bool false] 4)) ∧ W.heap.size = H + 5 ∧ Mod (fun _ => False) w W ∧
    Blk W H 3 [.int .i64 stop] ∧ Blk W (H + 1) 22 [.slice none 0 0] ∧ Blk W (H + 2) 23 [.slice none 0 0] ∧ Blk W (H + 3) 4 [.bool false] ∧ Blk W (H + 4) 4 [.bool false] := by
  have hs : ∀ (w : World) (o : Obj) (k : Nat), w.heap.size = k → (w.alloc o).heap.size = k + 1 := fun w o k h => by rw [World.size_alloc, h]
  have s1 := hs w (.cells #[.int .i64 stop] 3) H hH
  have s2 := hs _ (.cells #[.slice none 0 0] 22) _ s1
  have s3 := hs _ (.cells #[.slice none 0 0] 23) _ s2
  have s4 := hs _ (.cells #[.bool false] 4) _ s3
  have s5 := hs _ (.cells #[.bool false] 4) _ s4
  refine ⟨_, rfl, s5, (((((Mod.refl _ _).alloc _).alloc _).alloc _).alloc _).alloc _, ?_, ?_, ?_, ?_, ?_⟩
  · exact ((((blk_new_at hH _ _ rfl).alloc _).alloc _).alloc _).alloc _
  · exact (((blk_new_at s1 _ _ rfl).alloc _).alloc _).alloc _
  · exact ((blk_new_at s2 _ _ rfl).alloc _).alloc _
  · exact (blk_new_at s3 _ _ rfl).alloc _
  · exact blk_new_at s4 _ _ rfl

theorem heard_nil {H : Nat} {w : World} (h1 : Blk w (H + 1) 22 [.slice none 0 0]) (h2 : Blk w (H + 2) 23 [.slice none 0 0]) (hl : H + 3 ≤ w.heap.size) : Heard H w w [] :=
  ⟨Mod.refl _ _, hl, .slice none 0 0, .slice none 0 0, [], h1, h2, World.ownsRow_nil _ _ _ _, World.ownsRow_nil _ _ _ _, ⟨rfl, fun i v xs h => by simp at h⟩, fun k h => by cases h⟩

theorem vw_end {w7 : World} {H : Nat} {u1 u2 : Value} {sb f3 f4 : Bool} (b1 : Blk w7 (H + 1) 22 [u1]) (b2 : Blk w7 (H + 2) 23 [u2]) (b3 : Blk w7 (H + 3) 4 [.bool f3]) (b4 : Blk w7 (H + 4) 4 [.bool f4]) :
    ∃ W, W = (((((w7.setCell ⟨H + 3, 0, none⟩ (.bool sb)).setCell ⟨H + 1, 0, none⟩ u1).setCell ⟨H + 2, 0, none⟩ u2).setCell ⟨H + 3, 0, none⟩ (.bool sb)).setCell ⟨H + 4, 0, none⟩ (.bool true)).drew ∧ (∀ {w : World}, Mod (fun _ => False) w w7 → w.heap.size = H → Mod (fun _ => False) w W) ∧
      (∀ k, H + 5 ≤ k → W.heap[k]? = w7.heap[k]?) ∧ W.cell? ⟨H + 1, 0, none⟩ = some u1 ∧ W.cell? ⟨H + 2, 0, none⟩ = some u2 ∧ W.cell? ⟨H + 3, 0, none⟩ = some (.bool sb) ∧ W.cell? ⟨H + 4, 0, none⟩ = some (.bool true) := by
  refine ⟨_, rfl, fun hm hH => ?_, fun k hk => ?_, ?_, ?_, ?_, ?_⟩
  · have h1 := hm.set (p := ⟨H + 3, 0, none⟩) (.inr (by rw [hH]; exact Nat.le_add_right _ _)) (.bool sb)
    have h2 := h1.set (p := ⟨H + 1, 0, none⟩) (.inr (by rw [hH]; exact Nat.le_add_right _ _)) u1
    have h3 := h2.set (p := ⟨H + 2, 0, none⟩) (.inr (by rw [hH]; exact Nat.le_add_right _ _)) u2
    have h4 := h3.set (p := ⟨H + 3, 0, none⟩) (.inr (by rw [hH]; exact Nat.le_add_right _ _)) (.bool sb)
    have h5 := h4.set (p := ⟨H + 4, 0, none⟩) (.inr (by rw [hH]; exact Nat.le_add_right _ _)) (.bool true)
    exact h5.drew
  · rw [show ∀ w : World, w.drew.heap = w.heap from fun _ => rfl, Below.heap_setCell _ _ _ _ (by show k ≠ H + 4; omega), Below.heap_setCell _ _ _ _ (by show k ≠ H + 3; omega), Below.heap_setCell _ _ _ _ (by show k ≠ H + 2; omega), Below.heap_setCell _ _ _ _ (by show k ≠ H + 1; omega), Below.heap_setCell _ _ _ _ (by show k ≠ H + 3; omega)]
  · have g0 := b1.other (a := ⟨H + 3, 0, none⟩) (.bool sb) (by show H + 3 ≠ H + 1; omega)
    have g1 := g0.set 0 (u1)
    have g2 := g1.other (a := ⟨H + 2, 0, none⟩) (u2) (by show H + 2 ≠ H + 1; omega)
    have g3 := g2.other (a := ⟨H + 3, 0, none⟩) (.bool sb) (by show H + 3 ≠ H + 1; omega)
    have g4 := g3.other (a := ⟨H + 4, 0, none⟩) (.bool true) (by show H + 4 ≠ H + 1; omega)
    exact (g4.drew).at (i := 0) rfl
  · have g0 := b2.other (a := ⟨H + 3, 0, none⟩) (.bool sb) (by show H + 3 ≠ H + 2; omega)
    have g1 := g0.other (a := ⟨H + 1, 0, none⟩) (u1) (by show H + 1 ≠ H + 2; omega)
    have g2 := g1.set 0 (u2)
    have g3 := g2.other (a := ⟨H + 3, 0, none⟩) (.bool sb) (by show H + 3 ≠ H + 2; omega)
    have g4 := g3.other (a := ⟨H + 4, 0, none⟩) (.bool true) (by show H + 4 ≠ H + 2; omega)
    exact (g4.drew).at (i := 0) rfl
  · have g0 := b3.set 0 (.bool sb)
    have g1 := g0.other (a := ⟨H + 1, 0, none⟩) (u1) (by show H + 1 ≠ H + 3; omega)
    have g2 := g1.other (a := ⟨H + 2, 0, none⟩) (u2) (by show H + 2 ≠ H + 3; omega)
    have g3 := g2.set 0 (.bool sb)
    have g4 := g3.other (a := ⟨H + 4, 0, none⟩) (.bool true) (by show H + 4 ≠ H + 3; omega)
    exact (g4.drew).at (i := 0) rfl
  · have g0 := b4.other (a := ⟨H + 3, 0, none⟩) (.bool sb) (by show H + 3 ≠ H + 4; omega)
    have g1 := g0.other (a := ⟨H + 1, 0, none⟩) (u1) (by show H + 1 ≠ H + 4; omega)
    have g2 := g1.other (a := ⟨H + 2, 0, none⟩) (u2) (by show H + 2 ≠ H + 4; omega)
    have g3 := g2.other (a := ⟨H + 3, 0, none⟩) (.bool sb) (by show H + 3 ≠ H + 4; omega)
    have g4 := g3.set 0 (.bool true)
    exact (g4.drew).at (i := 0) rfl

set_option maxHeartbeats 4000000 in
theorem kwalk_told (T : Option Addr) (c n : Nat) (xs : List KN) (stop : Int) (w : World) (hn : n = xs.length) (h0 : 0 < n) (hn2 : n ≤ 2147483647) (hP : ∀ x ∈ xs, (0 < x.p.n ∧ x.p.n ≤ 4) ∧ (x.mn.n = 0 ∨ (0 < x.mn.n ∧ x.mn.n ≤ 4 ∧ 0 < x.mx.n ∧ x.mx.n ≤ 4))) (hN : KNodes w T xs) (hil : (ino (KC xs) (KF xs) n 0 0).length = n) :
    Calls Try.prog 17 #[.slice T n c, .int .i64 stop] w (VwTold stop ((ino (KC xs) (KF xs) n 0 0).map fun p => (PX xs p.1, p.2)) w) := by
  have hmf : ∀ (fn : Fn) (first cap : Array Value) (w : World), (Instr.makeFunc fn first cap).run Try.prog w = .ok (.func fn first cap) w := fun _ _ _ _ => rfl
  obtain ⟨H, hH⟩ : ∃ H, w.heap.size = H := ⟨_, rfl⟩
  obtain ⟨W5, eW5, z5, m5, q0, q1, q2, q3, q4⟩ := init5 w H stop hH
  have hch : chl (KC xs) (KF xs) n 0 (-1) 0 = ino (KC xs) (KF xs) n 0 0 := by
    unfold chl
    rw [if_pos ⟨by omega, by omega⟩]
    rfl
  have H5 : Hid (W5.heap.size = H + 5 ∧ Mod (fun _ => False) w W5 ∧ Blk W5 H 3 [.int .i64 stop] ∧ Blk W5 (H + 1) 22 [.slice none 0 0] ∧ Blk W5 (H + 2) 23 [.slice none 0 0] ∧ Blk W5 (H + 3) 4 [.bool false] ∧ Blk W5 (H + 4) 4 [.bool false]) := ⟨z5, m5, q0, q1, q2, q3, q4⟩
  have HN := Lib.hid (And.intro hN (And.intro hn (And.intro hP (And.intro hil hch))))
  have HEW := Lib.hid eW5
  clear hN hn hP hil hch z5 m5 q0 q1 q2 q3 q4 eW5
  go_enter_defers Try.func17, Try.ntmps17
  go_wp2_with (first | (go_at_call 42; rw [← HEW.out]; refine (ktree_at T c n xs W5 HN.out.2.1 HN.out.2.2.1 (HN.out.1.mod H5.out.2.1)).mono ?_; rintro _ w6 ⟨t, v, tb, rfl, htb, ht, hm, htl, hv⟩; have hv0 := (hv 0).trans (by rw [HN.out.2.2.2.2]); have hnn : t ≠ .nil := (by rintro rfl; have hz := congrArg List.length hv0; rw [List.length_map, HN.out.2.2.2.1] at hz; simp [BT.visit] at hz; omega); have hlv : (t.visit 0).length ≤ 2147483647 := (by rw [hv0, List.length_map, HN.out.2.2.2.1]; exact hn2); have HV0 := Lib.hid hv0; clear hv hv0; rw [H5.out.1] at ht; have hhn : Heard H w6 w6 [] := heard_nil (H5.out.2.2.2.1.mod hm (fun h => h)) (H5.out.2.2.2.2.1.mod hm (fun h => h)) (by have := hm.size; have := H5.out.1; omega)) | (go_at_call 43; refine (tree_do H (H + 5) w6 w6 stop (H5.out.2.2.1.mod hm (fun h => h)) (by omega) t v tb n htb hnn ht hhn hlv).mono ?_; rintro _ w7 ⟨rfl, hD⟩; have b3 : Blk w7 (H + 1 + 1 + 1) 4 [.bool false] := ((H5.out.2.2.2.2.2.1.mod hm (fun h => h)).mod hD.mod (by show ¬ (H + 3 = H + 1 ∨ H + 3 = H + 2); omega)); have b4 : Blk w7 (H + 1 + 1 + 1 + 1) 4 [.bool false] := ((H5.out.2.2.2.2.2.2.mod hm (fun h => h)).mod hD.mod (by show ¬ (H + 4 = H + 1 ∨ H + 4 = H + 2); omega)); have y3 := b3.at (i := 0) rfl; have z3 := b3.frozen 0; have y4 := b4.at (i := 0) rfl; have z4 := b4.frozen 0))
  obtain ⟨u1, u2, gs, b1, b2, o1, o2, hp, hne⟩ := hD.rows
  obtain ⟨A1, c1, rfl, hs1⟩ := own_sl o1
  obtain ⟨A2, c2, rfl, hs2⟩ := own_sl o2
  rw [List.length_map] at b1 b2 o1 o2 hs1 hs2
  simp only [List.length_map] at hp
  clear hne
  obtain ⟨k, hk⟩ : ∃ k, k = (cut stop (t.visit 0)).length := ⟨_, rfl⟩
  obtain ⟨sb, hsb⟩ : ∃ sb, sb = stopped stop (t.visit 0) := ⟨_, rfl⟩
  rw [← hk] at b1 b2 o1 o2 hs1 hs2 hp
  rw [← hsb]
  have y1 := b1.at (i := 0) rfl
  have z1 := b1.frozen 0
  have y2 : w7.cell? ⟨H + 1 + 1, 0, none⟩ = some (.slice A2 k c2) := b2.at (i := 0) rfl
  have z2 : w7.frozen? ⟨H + 1 + 1, 0, none⟩ = false := b2.frozen 0
  obtain ⟨W, eW, hWm, hWk, r1, r2, r3, r4⟩ := vw_end (sb := sb) b1 b2 b3 b4
  have eW' : W = (((((w7.setCell ⟨H + 1 + 1 + 1, 0, none⟩ (.bool sb)).setCell ⟨H + 1, 0, none⟩ (.slice A1 k c1)).setCell ⟨H + 1 + 1, 0, none⟩ (.slice A2 k c2)).setCell ⟨H + 1 + 1 + 1, 0, none⟩ (.bool sb)).setCell ⟨H + 1 + 1 + 1 + 1, 0, none⟩ (.bool true)).drew := eW
  have hmw : Mod (fun _ => False) w w7 := (H5.out.2.1.trans hm).trans' hD.mod (fun i hi h => by rw [hH] at hi; omega)
  have hB6 : H + 5 ≤ w6.heap.size := by have := hm.size; have := H5.out.1; omega
  have hfin : VwTold stop ((ino (KC xs) (KF xs) n 0 0).map fun p => (PX xs p.1, p.2)) w (.returned (.tuple #[.slice A1 k c1, .slice A2 k c2, .bool sb, .bool true])) W := by
    have e := HV0.out
    rw [e] at hk hsb hp hs2
    have keep : ∀ b, w6.heap.size ≤ b → W.heap[b]? = w7.heap[b]? := fun b hb => hWk b (by omega)
    refine ⟨A1, c1, A2, c2, gs, by rw [← hk, ← hsb], hWm hmw hH, ?_, ⟨hp.1, fun i v xs h1 h2 => ?_⟩, ?_⟩
    · rw [← hk]; exact sl_keep2 hs1 fun b o e hb => keep b (by rcases o1.2 with ⟨h, _⟩ | ⟨g, cap, cur, h, hg, _⟩ <;> (rw [e] at h; cases h); exact hg)
    · obtain ⟨A, m, c', ev, hml, hs, hA⟩ := hp.2 i v xs h1 h2
      exact ⟨A, m, c', ev, hml, sl_keep2 hs fun b o e hb => keep b (hA b o e).1.1⟩
    · rw [← hk]; exact sl_keep2 hs2 fun b o e hb => keep b (by rcases o2.2 with ⟨h, _⟩ | ⟨g, cap, cur, h, hg, _⟩ <;> (rw [e] at h; cases h); exact hg)
  have HFIN := Lib.hid hfin
  have HR : Hid (W.cell? ⟨H + 1, 0, none⟩ = some (.slice A1 k c1) ∧ W.cell? ⟨H + 1 + 1, 0, none⟩ = some (.slice A2 k c2) ∧ W.cell? ⟨H + 1 + 1 + 1, 0, none⟩ = some (.bool sb) ∧ W.cell? ⟨H + 1 + 1 + 1 + 1, 0, none⟩ = some (.bool true)) := ⟨r1, r2, r3, r4⟩
  have HEE := Lib.hid eW'
  clear hfin eW eW' r1 r2 r3 r4 hk hsb hWm hWk hmw hp hs1 hs2 o1 o2 HEW
  refine wp_region_noPanic ?_
  go_region
  refine NoPanic.normal ?_
  rw [← HEE.out]
  go_wp2_with fail
  refine leaves_cons (f := 41) (args := #[.pointer (some ⟨H + 1, 0, none⟩), .pointer (some ⟨H + 1 + 1, 0, none⟩), .pointer (some ⟨H + 1 + 1 + 1, 0, none⟩), .pointer (some ⟨H + 1 + 1 + 1 + 1, 0, none⟩)]) (by simp) (by simp [go_sem]) ?_
  refine (catch_idle4 ⟨H + 1, 0, none⟩ ⟨H + 1 + 1, 0, none⟩ ⟨H + 1 + 1 + 1, 0, none⟩ ⟨H + 1 + 1 + 1 + 1, 0, none⟩ _).mono ?_
  rintro e u' w'' ⟨rfl, rfl, rfl⟩
  obtain ⟨r1, r2, r3, r4⟩ := HR.out
  clear HEE
  simp [Leaves, settle, results, Try.results17, go_sem, r1, r2, r3, r4]
  exact HFIN.out
end Go.Proofs.Ytmeooadgdagiiaa.W
