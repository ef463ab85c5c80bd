/- The walks of the turn of a place of 4 coordinates, by the digit. Conditions: 4 coordinates from 0 to 2^n - 1, n up to 62, a digit. -/
import Derived.Test.YtidbohofjljkcaaDoorHilDo2
namespace Go.Proofs.YtidbohofjljkcaaDoor
open Go.RowKit Lox Hil
set_option linter.unusedVariables false

set_option maxHeartbeats 400000 in
theorem rot4_0 (b n : Nat) (O : Int) (xs : List Int) (w : World) (hn : n ≤ 62) (hl : xs.length = 4) (hin : Ins n xs) (hb : Blk w b 3 (ints xs)) :
    Calls Tryd.prog 21 #[.agg #[.int .i64 O], .bool true, .int .i64 n, .slice (some ⟨b, 0, none⟩) 4 4, .int .i64 0] w fun e w' => e = .returned (.tuple #[]) ∧ Blk w' b 3 (ints (rot4 n 0 xs)) ∧ Mod (· = b) w w' := by
  go_enter Tryd.func21, Tryd.ntmps21
  go_wp2_with fail
  refine (do2_ss 1 3 0 3 b 4 4 n _ _ _ _ _ xs _ rfl rfl rfl rfl rfl hn (by omega) (by omega) (by decide) (by omega) (by omega) (by decide) hl (by decide) hin (hb.alloc _)).mono ?_
  rintro e w1 ⟨rfl, hb1, hm1⟩
  go_wp2_with fail
  go_end0
  exact ⟨rfl, hb1, ((Mod.refl _ _).alloc _).trans hm1⟩

set_option maxHeartbeats 400000 in
theorem rot4_1 (b n : Nat) (O : Int) (xs : List Int) (w : World) (hn : n ≤ 62) (hl : xs.length = 4) (hin : Ins n xs) (hb : Blk w b 3 (ints xs)) :
    Calls Tryd.prog 21 #[.agg #[.int .i64 O], .bool true, .int .i64 n, .slice (some ⟨b, 0, none⟩) 4 4, .int .i64 1] w fun e w' => e = .returned (.tuple #[]) ∧ Blk w' b 3 (ints (rot4 n 1 xs)) ∧ Mod (· = b) w w' := by
  go_enter Tryd.func21, Tryd.ntmps21
  go_wp2_with fail
  refine (do2_ss 0 3 1 3 b 4 4 n _ _ _ _ _ xs _ rfl rfl rfl rfl rfl hn (by omega) (by omega) (by decide) (by omega) (by omega) (by decide) hl (by decide) hin (hb.alloc _)).mono ?_
  rintro e w1 ⟨rfl, hb1, hm1⟩
  go_wp2_with fail
  go_end0
  exact ⟨rfl, hb1, ((Mod.refl _ _).alloc _).trans hm1⟩

set_option maxHeartbeats 400000 in
theorem rot4_2 (b n : Nat) (O : Int) (xs : List Int) (w : World) (hn : n ≤ 62) (hl : xs.length = 4) (hin : Ins n xs) (hb : Blk w b 3 (ints xs)) :
    Calls Tryd.prog 21 #[.agg #[.int .i64 O], .bool true, .int .i64 n, .slice (some ⟨b, 0, none⟩) 4 4, .int .i64 2] w fun e w' => e = .returned (.tuple #[]) ∧ Blk w' b 3 (ints (rot4 n 2 xs)) ∧ Mod (· = b) w w' := by
  go_enter Tryd.func21, Tryd.ntmps21
  go_wp2_with fail
  refine (do2_ss 0 3 1 3 b 4 4 n _ _ _ _ _ xs _ rfl rfl rfl rfl rfl hn (by omega) (by omega) (by decide) (by omega) (by omega) (by decide) hl (by decide) hin (hb.alloc _)).mono ?_
  rintro e w1 ⟨rfl, hb1, hm1⟩
  go_wp2_with fail
  go_end0
  exact ⟨rfl, hb1, ((Mod.refl _ _).alloc _).trans hm1⟩

set_option maxHeartbeats 400000 in
theorem rot4_3 (b n : Nat) (O : Int) (xs : List Int) (w : World) (hn : n ≤ 62) (hl : xs.length = 4) (hin : Ins n xs) (hb : Blk w b 3 (ints xs)) :
    Calls Tryd.prog 21 #[.agg #[.int .i64 O], .bool true, .int .i64 n, .slice (some ⟨b, 0, none⟩) 4 4, .int .i64 3] w fun e w' => e = .returned (.tuple #[]) ∧ Blk w' b 3 (ints (rot4 n 3 xs)) ∧ Mod (· = b) w w' := by
  go_enter Tryd.func21, Tryd.ntmps21
  go_wp2_with fail
  refine (do2_fs 0 1 2 3 b 4 4 n _ _ _ _ _ xs _ rfl rfl rfl rfl rfl hn (by omega) (by omega) (by decide) (by omega) (by omega) (by decide) hl (by decide) hin (hb.alloc _)).mono ?_
  rintro e w1 ⟨rfl, hb1, hm1⟩
  go_wp2_with fail
  go_end0
  exact ⟨rfl, hb1, ((Mod.refl _ _).alloc _).trans hm1⟩

set_option maxHeartbeats 400000 in
theorem rot4_4 (b n : Nat) (O : Int) (xs : List Int) (w : World) (hn : n ≤ 62) (hl : xs.length = 4) (hin : Ins n xs) (hb : Blk w b 3 (ints xs)) :
    Calls Tryd.prog 21 #[.agg #[.int .i64 O], .bool true, .int .i64 n, .slice (some ⟨b, 0, none⟩) 4 4, .int .i64 4] w fun e w' => e = .returned (.tuple #[]) ∧ Blk w' b 3 (ints (rot4 n 4 xs)) ∧ Mod (· = b) w w' := by
  go_enter Tryd.func21, Tryd.ntmps21
  go_wp2_with fail
  refine (do2_fs 0 1 2 3 b 4 4 n _ _ _ _ _ xs _ rfl rfl rfl rfl rfl hn (by omega) (by omega) (by decide) (by omega) (by omega) (by decide) hl (by decide) hin (hb.alloc _)).mono ?_
  rintro e w1 ⟨rfl, hb1, hm1⟩
  go_wp2_with fail
  go_end0
  exact ⟨rfl, hb1, ((Mod.refl _ _).alloc _).trans hm1⟩

set_option maxHeartbeats 400000 in
theorem rot4_5 (b n : Nat) (O : Int) (xs : List Int) (w : World) (hn : n ≤ 62) (hl : xs.length = 4) (hin : Ins n xs) (hb : Blk w b 3 (ints xs)) :
    Calls Tryd.prog 21 #[.agg #[.int .i64 O], .bool true, .int .i64 n, .slice (some ⟨b, 0, none⟩) 4 4, .int .i64 5] w fun e w' => e = .returned (.tuple #[]) ∧ Blk w' b 3 (ints (rot4 n 5 xs)) ∧ Mod (· = b) w w' := by
  go_enter Tryd.func21, Tryd.ntmps21
  go_wp2_with fail
  refine (do2_fs 1 2 2 3 b 4 4 n _ _ _ _ _ xs _ rfl rfl rfl rfl rfl hn (by omega) (by omega) (by decide) (by omega) (by omega) (by decide) hl (by decide) hin (hb.alloc _)).mono ?_
  rintro e w1 ⟨rfl, hb1, hm1⟩
  go_wp2_with fail
  go_end0
  exact ⟨rfl, hb1, ((Mod.refl _ _).alloc _).trans hm1⟩

set_option maxHeartbeats 400000 in
theorem rot4_6 (b n : Nat) (O : Int) (xs : List Int) (w : World) (hn : n ≤ 62) (hl : xs.length = 4) (hin : Ins n xs) (hb : Blk w b 3 (ints xs)) :
    Calls Tryd.prog 21 #[.agg #[.int .i64 O], .bool true, .int .i64 n, .slice (some ⟨b, 0, none⟩) 4 4, .int .i64 6] w fun e w' => e = .returned (.tuple #[]) ∧ Blk w' b 3 (ints (rot4 n 6 xs)) ∧ Mod (· = b) w w' := by
  go_enter Tryd.func21, Tryd.ntmps21
  go_wp2_with fail
  refine (do2_fs 1 2 2 3 b 4 4 n _ _ _ _ _ xs _ rfl rfl rfl rfl rfl hn (by omega) (by omega) (by decide) (by omega) (by omega) (by decide) hl (by decide) hin (hb.alloc _)).mono ?_
  rintro e w1 ⟨rfl, hb1, hm1⟩
  go_wp2_with fail
  go_end0
  exact ⟨rfl, hb1, ((Mod.refl _ _).alloc _).trans hm1⟩

set_option maxHeartbeats 400000 in
theorem rot4_7 (b n : Nat) (O : Int) (xs : List Int) (w : World) (hn : n ≤ 62) (hl : xs.length = 4) (hin : Ins n xs) (hb : Blk w b 3 (ints xs)) :
    Calls Tryd.prog 21 #[.agg #[.int .i64 O], .bool true, .int .i64 n, .slice (some ⟨b, 0, none⟩) 4 4, .int .i64 7] w fun e w' => e = .returned (.tuple #[]) ∧ Blk w' b 3 (ints (rot4 n 7 xs)) ∧ Mod (· = b) w w' := by
  go_enter Tryd.func21, Tryd.ntmps21
  go_wp2_with fail
  refine (invert_do 0 2 b 4 4 n _ _ _ xs _ rfl rfl rfl hn (by omega) (by omega) (by decide) hl (by decide) hin (hb.alloc _)).mono ?_
  rintro e w1 ⟨rfl, hb1, hm1⟩
  go_wp2_with fail
  go_end0
  exact ⟨rfl, hb1, ((Mod.refl _ _).alloc _).trans hm1⟩

set_option maxHeartbeats 400000 in
theorem rot4_8 (b n : Nat) (O : Int) (xs : List Int) (w : World) (hn : n ≤ 62) (hl : xs.length = 4) (hin : Ins n xs) (hb : Blk w b 3 (ints xs)) :
    Calls Tryd.prog 21 #[.agg #[.int .i64 O], .bool true, .int .i64 n, .slice (some ⟨b, 0, none⟩) 4 4, .int .i64 8] w fun e w' => e = .returned (.tuple #[]) ∧ Blk w' b 3 (ints (rot4 n 8 xs)) ∧ Mod (· = b) w w' := by
  go_enter Tryd.func21, Tryd.ntmps21
  go_wp2_with fail
  refine (invert_do 0 2 b 4 4 n _ _ _ xs _ rfl rfl rfl hn (by omega) (by omega) (by decide) hl (by decide) hin (hb.alloc _)).mono ?_
  rintro e w1 ⟨rfl, hb1, hm1⟩
  go_wp2_with fail
  go_end0
  exact ⟨rfl, hb1, ((Mod.refl _ _).alloc _).trans hm1⟩

set_option maxHeartbeats 400000 in
theorem rot4_9 (b n : Nat) (O : Int) (xs : List Int) (w : World) (hn : n ≤ 62) (hl : xs.length = 4) (hin : Ins n xs) (hb : Blk w b 3 (ints xs)) :
    Calls Tryd.prog 21 #[.agg #[.int .i64 O], .bool true, .int .i64 n, .slice (some ⟨b, 0, none⟩) 4 4, .int .i64 9] w fun e w' => e = .returned (.tuple #[]) ∧ Blk w' b 3 (ints (rot4 n 9 xs)) ∧ Mod (· = b) w w' := by
  go_enter Tryd.func21, Tryd.ntmps21
  go_wp2_with fail
  refine (do2_ff 1 2 2 3 b 4 4 n _ _ _ _ _ xs _ rfl rfl rfl rfl rfl hn (by omega) (by omega) (by decide) (by omega) (by omega) (by decide) hl (by decide) hin (hb.alloc _)).mono ?_
  rintro e w1 ⟨rfl, hb1, hm1⟩
  go_wp2_with fail
  go_end0
  exact ⟨rfl, hb1, ((Mod.refl _ _).alloc _).trans hm1⟩

set_option maxHeartbeats 400000 in
theorem rot4_10 (b n : Nat) (O : Int) (xs : List Int) (w : World) (hn : n ≤ 62) (hl : xs.length = 4) (hin : Ins n xs) (hb : Blk w b 3 (ints xs)) :
    Calls Tryd.prog 21 #[.agg #[.int .i64 O], .bool true, .int .i64 n, .slice (some ⟨b, 0, none⟩) 4 4, .int .i64 10] w fun e w' => e = .returned (.tuple #[]) ∧ Blk w' b 3 (ints (rot4 n 10 xs)) ∧ Mod (· = b) w w' := by
  go_enter Tryd.func21, Tryd.ntmps21
  go_wp2_with fail
  refine (do2_ff 1 2 2 3 b 4 4 n _ _ _ _ _ xs _ rfl rfl rfl rfl rfl hn (by omega) (by omega) (by decide) (by omega) (by omega) (by decide) hl (by decide) hin (hb.alloc _)).mono ?_
  rintro e w1 ⟨rfl, hb1, hm1⟩
  go_wp2_with fail
  go_end0
  exact ⟨rfl, hb1, ((Mod.refl _ _).alloc _).trans hm1⟩

set_option maxHeartbeats 400000 in
theorem rot4_11 (b n : Nat) (O : Int) (xs : List Int) (w : World) (hn : n ≤ 62) (hl : xs.length = 4) (hin : Ins n xs) (hb : Blk w b 3 (ints xs)) :
    Calls Tryd.prog 21 #[.agg #[.int .i64 O], .bool true, .int .i64 n, .slice (some ⟨b, 0, none⟩) 4 4, .int .i64 11] w fun e w' => e = .returned (.tuple #[]) ∧ Blk w' b 3 (ints (rot4 n 11 xs)) ∧ Mod (· = b) w w' := by
  go_enter Tryd.func21, Tryd.ntmps21
  go_wp2_with fail
  refine (do2_ff 0 1 2 3 b 4 4 n _ _ _ _ _ xs _ rfl rfl rfl rfl rfl hn (by omega) (by omega) (by decide) (by omega) (by omega) (by decide) hl (by decide) hin (hb.alloc _)).mono ?_
  rintro e w1 ⟨rfl, hb1, hm1⟩
  go_wp2_with fail
  go_end0
  exact ⟨rfl, hb1, ((Mod.refl _ _).alloc _).trans hm1⟩

set_option maxHeartbeats 400000 in
theorem rot4_12 (b n : Nat) (O : Int) (xs : List Int) (w : World) (hn : n ≤ 62) (hl : xs.length = 4) (hin : Ins n xs) (hb : Blk w b 3 (ints xs)) :
    Calls Tryd.prog 21 #[.agg #[.int .i64 O], .bool true, .int .i64 n, .slice (some ⟨b, 0, none⟩) 4 4, .int .i64 12] w fun e w' => e = .returned (.tuple #[]) ∧ Blk w' b 3 (ints (rot4 n 12 xs)) ∧ Mod (· = b) w w' := by
  go_enter Tryd.func21, Tryd.ntmps21
  go_wp2_with fail
  refine (do2_ff 0 1 2 3 b 4 4 n _ _ _ _ _ xs _ rfl rfl rfl rfl rfl hn (by omega) (by omega) (by decide) (by omega) (by omega) (by decide) hl (by decide) hin (hb.alloc _)).mono ?_
  rintro e w1 ⟨rfl, hb1, hm1⟩
  go_wp2_with fail
  go_end0
  exact ⟨rfl, hb1, ((Mod.refl _ _).alloc _).trans hm1⟩

set_option maxHeartbeats 400000 in
theorem rot4_13 (b n : Nat) (O : Int) (xs : List Int) (w : World) (hn : n ≤ 62) (hl : xs.length = 4) (hin : Ins n xs) (hb : Blk w b 3 (ints xs)) :
    Calls Tryd.prog 21 #[.agg #[.int .i64 O], .bool true, .int .i64 n, .slice (some ⟨b, 0, none⟩) 4 4, .int .i64 13] w fun e w' => e = .returned (.tuple #[]) ∧ Blk w' b 3 (ints (rot4 n 13 xs)) ∧ Mod (· = b) w w' := by
  go_enter Tryd.func21, Tryd.ntmps21
  go_wp2_with fail
  refine (do2_ff 0 3 1 3 b 4 4 n _ _ _ _ _ xs _ rfl rfl rfl rfl rfl hn (by omega) (by omega) (by decide) (by omega) (by omega) (by decide) hl (by decide) hin (hb.alloc _)).mono ?_
  rintro e w1 ⟨rfl, hb1, hm1⟩
  go_wp2_with fail
  go_end0
  exact ⟨rfl, hb1, ((Mod.refl _ _).alloc _).trans hm1⟩

set_option maxHeartbeats 400000 in
theorem rot4_14 (b n : Nat) (O : Int) (xs : List Int) (w : World) (hn : n ≤ 62) (hl : xs.length = 4) (hin : Ins n xs) (hb : Blk w b 3 (ints xs)) :
    Calls Tryd.prog 21 #[.agg #[.int .i64 O], .bool true, .int .i64 n, .slice (some ⟨b, 0, none⟩) 4 4, .int .i64 14] w fun e w' => e = .returned (.tuple #[]) ∧ Blk w' b 3 (ints (rot4 n 14 xs)) ∧ Mod (· = b) w w' := by
  go_enter Tryd.func21, Tryd.ntmps21
  go_wp2_with fail
  refine (do2_ff 0 3 1 3 b 4 4 n _ _ _ _ _ xs _ rfl rfl rfl rfl rfl hn (by omega) (by omega) (by decide) (by omega) (by omega) (by decide) hl (by decide) hin (hb.alloc _)).mono ?_
  rintro e w1 ⟨rfl, hb1, hm1⟩
  go_wp2_with fail
  go_end0
  exact ⟨rfl, hb1, ((Mod.refl _ _).alloc _).trans hm1⟩

set_option maxHeartbeats 400000 in
theorem rot4_15 (b n : Nat) (O : Int) (xs : List Int) (w : World) (hn : n ≤ 62) (hl : xs.length = 4) (hin : Ins n xs) (hb : Blk w b 3 (ints xs)) :
    Calls Tryd.prog 21 #[.agg #[.int .i64 O], .bool true, .int .i64 n, .slice (some ⟨b, 0, none⟩) 4 4, .int .i64 15] w fun e w' => e = .returned (.tuple #[]) ∧ Blk w' b 3 (ints (rot4 n 15 xs)) ∧ Mod (· = b) w w' := by
  go_enter Tryd.func21, Tryd.ntmps21
  go_wp2_with fail
  refine (do2_ff 1 3 0 3 b 4 4 n _ _ _ _ _ xs _ rfl rfl rfl rfl rfl hn (by omega) (by omega) (by decide) (by omega) (by omega) (by decide) hl (by decide) hin (hb.alloc _)).mono ?_
  rintro e w1 ⟨rfl, hb1, hm1⟩
  go_wp2_with fail
  go_end0
  exact ⟨rfl, hb1, ((Mod.refl _ _).alloc _).trans hm1⟩

theorem rot4_any (b n e : Nat) (O N E : Int) (xs : List Int) (w : World) (hN : N = n) (hE : E = e) (he : e < 16) (hn : n ≤ 62) (hl : xs.length = 4) (hin : Ins n xs) (hb : Blk w b 3 (ints xs)) :
    Calls Tryd.prog 21 #[.agg #[.int .i64 O], .bool true, .int .i64 N, .slice (some ⟨b, 0, none⟩) 4 4, .int .i64 E] w fun e' w' => e' = .returned (.tuple #[]) ∧ Blk w' b 3 (ints (rot4 n e xs)) ∧ Mod (· = b) w w' := by
  subst hN hE
  have h : e = 0 ∨ e = 1 ∨ e = 2 ∨ e = 3 ∨ e = 4 ∨ e = 5 ∨ e = 6 ∨ e = 7 ∨ e = 8 ∨ e = 9 ∨ e = 10 ∨ e = 11 ∨ e = 12 ∨ e = 13 ∨ e = 14 ∨ e = 15 := by omega
  rcases h with rfl | rfl | rfl | rfl | rfl | rfl | rfl | rfl | rfl | rfl | rfl | rfl | rfl | rfl | rfl | rfl
  · exact rot4_0 b n O xs w hn hl hin hb
  · exact rot4_1 b n O xs w hn hl hin hb
  · exact rot4_2 b n O xs w hn hl hin hb
  · exact rot4_3 b n O xs w hn hl hin hb
  · exact rot4_4 b n O xs w hn hl hin hb
  · exact rot4_5 b n O xs w hn hl hin hb
  · exact rot4_6 b n O xs w hn hl hin hb
  · exact rot4_7 b n O xs w hn hl hin hb
  · exact rot4_8 b n O xs w hn hl hin hb
  · exact rot4_9 b n O xs w hn hl hin hb
  · exact rot4_10 b n O xs w hn hl hin hb
  · exact rot4_11 b n O xs w hn hl hin hb
  · exact rot4_12 b n O xs w hn hl hin hb
  · exact rot4_13 b n O xs w hn hl hin hb
  · exact rot4_14 b n O xs w hn hl hin hb
  · exact rot4_15 b n O xs w hn hl hin hb
end Go.Proofs.YtidbohofjljkcaaDoor
