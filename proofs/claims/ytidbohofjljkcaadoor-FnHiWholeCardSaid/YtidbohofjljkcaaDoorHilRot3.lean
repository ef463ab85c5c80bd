/- The walks of the turn of a place of 3 coordinates, by the digit. Conditions: 3 coordinates from 0 to 2^n - 1, n up to 62, a digit. -/
import Derived.Test.YtidbohofjljkcaaDoorHilDo2
namespace Go.Proofs.YtidbohofjljkcaaDoor
open Go.RowKit Lox Hil
set_option linter.unusedVariables false

set_option maxHeartbeats 400000 in
theorem rot3_0 (b n : Nat) (O : Int) (xs : List Int) (w : World) (hn : n ≤ 62) (hl : xs.length = 3) (hin : Ins n xs) (hb : Blk w b 3 (ints xs)) :
    Calls Tryd.prog 20 #[.agg #[.int .i64 O], .bool true, .int .i64 n, .slice (some ⟨b, 0, none⟩) 3 3, .int .i64 0] w fun e w' => e = .returned (.tuple #[]) ∧ Blk w' b 3 (ints (rot3 n 0 xs)) ∧ Mod (· = b) w w' := by
  go_enter Tryd.func20, Tryd.ntmps20
  go_wp2_with fail
  refine (do2_ss 1 2 0 2 b 3 3 n _ _ _ _ _ xs _ rfl rfl rfl rfl rfl hn (by omega) (by omega) (by decide) (by omega) (by omega) (by decide) hl (by decide) hin (hb.alloc _)).mono ?_
  rintro e w1 ⟨rfl, hb1, hm1⟩
  go_wp2_with fail
  go_end0
  exact ⟨rfl, hb1, ((Mod.refl _ _).alloc _).trans hm1⟩

set_option maxHeartbeats 400000 in
theorem rot3_1 (b n : Nat) (O : Int) (xs : List Int) (w : World) (hn : n ≤ 62) (hl : xs.length = 3) (hin : Ins n xs) (hb : Blk w b 3 (ints xs)) :
    Calls Tryd.prog 20 #[.agg #[.int .i64 O], .bool true, .int .i64 n, .slice (some ⟨b, 0, none⟩) 3 3, .int .i64 1] w fun e w' => e = .returned (.tuple #[]) ∧ Blk w' b 3 (ints (rot3 n 1 xs)) ∧ Mod (· = b) w w' := by
  go_enter Tryd.func20, Tryd.ntmps20
  go_wp2_with fail
  refine (do2_ss 0 2 1 2 b 3 3 n _ _ _ _ _ xs _ rfl rfl rfl rfl rfl hn (by omega) (by omega) (by decide) (by omega) (by omega) (by decide) hl (by decide) hin (hb.alloc _)).mono ?_
  rintro e w1 ⟨rfl, hb1, hm1⟩
  go_wp2_with fail
  go_end0
  exact ⟨rfl, hb1, ((Mod.refl _ _).alloc _).trans hm1⟩

set_option maxHeartbeats 400000 in
theorem rot3_2 (b n : Nat) (O : Int) (xs : List Int) (w : World) (hn : n ≤ 62) (hl : xs.length = 3) (hin : Ins n xs) (hb : Blk w b 3 (ints xs)) :
    Calls Tryd.prog 20 #[.agg #[.int .i64 O], .bool true, .int .i64 n, .slice (some ⟨b, 0, none⟩) 3 3, .int .i64 2] w fun e w' => e = .returned (.tuple #[]) ∧ Blk w' b 3 (ints (rot3 n 2 xs)) ∧ Mod (· = b) w w' := by
  go_enter Tryd.func20, Tryd.ntmps20
  go_wp2_with fail
  refine (do2_ss 0 2 1 2 b 3 3 n _ _ _ _ _ xs _ rfl rfl rfl rfl rfl hn (by omega) (by omega) (by decide) (by omega) (by omega) (by decide) hl (by decide) hin (hb.alloc _)).mono ?_
  rintro e w1 ⟨rfl, hb1, hm1⟩
  go_wp2_with fail
  go_end0
  exact ⟨rfl, hb1, ((Mod.refl _ _).alloc _).trans hm1⟩

set_option maxHeartbeats 400000 in
theorem rot3_3 (b n : Nat) (O : Int) (xs : List Int) (w : World) (hn : n ≤ 62) (hl : xs.length = 3) (hin : Ins n xs) (hb : Blk w b 3 (ints xs)) :
    Calls Tryd.prog 20 #[.agg #[.int .i64 O], .bool true, .int .i64 n, .slice (some ⟨b, 0, none⟩) 3 3, .int .i64 3] w fun e w' => e = .returned (.tuple #[]) ∧ Blk w' b 3 (ints (rot3 n 3 xs)) ∧ Mod (· = b) w w' := by
  go_enter Tryd.func20, Tryd.ntmps20
  go_wp2_with fail
  refine (invert_do 0 1 b 3 3 n _ _ _ xs _ rfl rfl rfl hn (by omega) (by omega) (by decide) hl (by decide) hin (hb.alloc _)).mono ?_
  rintro e w1 ⟨rfl, hb1, hm1⟩
  go_wp2_with fail
  go_end0
  exact ⟨rfl, hb1, ((Mod.refl _ _).alloc _).trans hm1⟩

set_option maxHeartbeats 400000 in
theorem rot3_4 (b n : Nat) (O : Int) (xs : List Int) (w : World) (hn : n ≤ 62) (hl : xs.length = 3) (hin : Ins n xs) (hb : Blk w b 3 (ints xs)) :
    Calls Tryd.prog 20 #[.agg #[.int .i64 O], .bool true, .int .i64 n, .slice (some ⟨b, 0, none⟩) 3 3, .int .i64 4] w fun e w' => e = .returned (.tuple #[]) ∧ Blk w' b 3 (ints (rot3 n 4 xs)) ∧ Mod (· = b) w w' := by
  go_enter Tryd.func20, Tryd.ntmps20
  go_wp2_with fail
  refine (invert_do 0 1 b 3 3 n _ _ _ xs _ rfl rfl rfl hn (by omega) (by omega) (by decide) hl (by decide) hin (hb.alloc _)).mono ?_
  rintro e w1 ⟨rfl, hb1, hm1⟩
  go_wp2_with fail
  go_end0
  exact ⟨rfl, hb1, ((Mod.refl _ _).alloc _).trans hm1⟩

set_option maxHeartbeats 400000 in
theorem rot3_5 (b n : Nat) (O : Int) (xs : List Int) (w : World) (hn : n ≤ 62) (hl : xs.length = 3) (hin : Ins n xs) (hb : Blk w b 3 (ints xs)) :
    Calls Tryd.prog 20 #[.agg #[.int .i64 O], .bool true, .int .i64 n, .slice (some ⟨b, 0, none⟩) 3 3, .int .i64 5] w fun e w' => e = .returned (.tuple #[]) ∧ Blk w' b 3 (ints (rot3 n 5 xs)) ∧ Mod (· = b) w w' := by
  go_enter Tryd.func20, Tryd.ntmps20
  go_wp2_with fail
  refine (do2_ff 0 2 1 2 b 3 3 n _ _ _ _ _ xs _ rfl rfl rfl rfl rfl hn (by omega) (by omega) (by decide) (by omega) (by omega) (by decide) hl (by decide) hin (hb.alloc _)).mono ?_
  rintro e w1 ⟨rfl, hb1, hm1⟩
  go_wp2_with fail
  go_end0
  exact ⟨rfl, hb1, ((Mod.refl _ _).alloc _).trans hm1⟩

set_option maxHeartbeats 400000 in
theorem rot3_6 (b n : Nat) (O : Int) (xs : List Int) (w : World) (hn : n ≤ 62) (hl : xs.length = 3) (hin : Ins n xs) (hb : Blk w b 3 (ints xs)) :
    Calls Tryd.prog 20 #[.agg #[.int .i64 O], .bool true, .int .i64 n, .slice (some ⟨b, 0, none⟩) 3 3, .int .i64 6] w fun e w' => e = .returned (.tuple #[]) ∧ Blk w' b 3 (ints (rot3 n 6 xs)) ∧ Mod (· = b) w w' := by
  go_enter Tryd.func20, Tryd.ntmps20
  go_wp2_with fail
  refine (do2_ff 0 2 1 2 b 3 3 n _ _ _ _ _ xs _ rfl rfl rfl rfl rfl hn (by omega) (by omega) (by decide) (by omega) (by omega) (by decide) hl (by decide) hin (hb.alloc _)).mono ?_
  rintro e w1 ⟨rfl, hb1, hm1⟩
  go_wp2_with fail
  go_end0
  exact ⟨rfl, hb1, ((Mod.refl _ _).alloc _).trans hm1⟩

set_option maxHeartbeats 400000 in
theorem rot3_7 (b n : Nat) (O : Int) (xs : List Int) (w : World) (hn : n ≤ 62) (hl : xs.length = 3) (hin : Ins n xs) (hb : Blk w b 3 (ints xs)) :
    Calls Tryd.prog 20 #[.agg #[.int .i64 O], .bool true, .int .i64 n, .slice (some ⟨b, 0, none⟩) 3 3, .int .i64 7] w fun e w' => e = .returned (.tuple #[]) ∧ Blk w' b 3 (ints (rot3 n 7 xs)) ∧ Mod (· = b) w w' := by
  go_enter Tryd.func20, Tryd.ntmps20
  go_wp2_with fail
  refine (do2_ff 1 2 0 2 b 3 3 n _ _ _ _ _ xs _ rfl rfl rfl rfl rfl hn (by omega) (by omega) (by decide) (by omega) (by omega) (by decide) hl (by decide) hin (hb.alloc _)).mono ?_
  rintro e w1 ⟨rfl, hb1, hm1⟩
  go_wp2_with fail
  go_end0
  exact ⟨rfl, hb1, ((Mod.refl _ _).alloc _).trans hm1⟩

theorem rot3_any (b n e : Nat) (O N E : Int) (xs : List Int) (w : World) (hN : N = n) (hE : E = e) (he : e < 8) (hn : n ≤ 62) (hl : xs.length = 3) (hin : Ins n xs) (hb : Blk w b 3 (ints xs)) :
    Calls Tryd.prog 20 #[.agg #[.int .i64 O], .bool true, .int .i64 N, .slice (some ⟨b, 0, none⟩) 3 3, .int .i64 E] w fun e' w' => e' = .returned (.tuple #[]) ∧ Blk w' b 3 (ints (rot3 n e xs)) ∧ Mod (· = b) w w' := by
  subst hN hE
  have h : e = 0 ∨ e = 1 ∨ e = 2 ∨ e = 3 ∨ e = 4 ∨ e = 5 ∨ e = 6 ∨ e = 7 := by omega
  rcases h with rfl | rfl | rfl | rfl | rfl | rfl | rfl | rfl
  · exact rot3_0 b n O xs w hn hl hin hb
  · exact rot3_1 b n O xs w hn hl hin hb
  · exact rot3_2 b n O xs w hn hl hin hb
  · exact rot3_3 b n O xs w hn hl hin hb
  · exact rot3_4 b n O xs w hn hl hin hb
  · exact rot3_5 b n O xs w hn hl hin hb
  · exact rot3_6 b n O xs w hn hl hin hb
  · exact rot3_7 b n O xs w hn hl hin hb
end Go.Proofs.YtidbohofjljkcaaDoor
