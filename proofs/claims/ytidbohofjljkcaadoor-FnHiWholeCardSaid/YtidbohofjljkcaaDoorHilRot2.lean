/- The walks of the turn of a place of 2 coordinates, by the digit. Conditions: 2 coordinates from 0 to 2^n - 1, n up to 62, a digit. -/
import Derived.Test.YtidbohofjljkcaaDoorHilDo2
namespace Go.Proofs.YtidbohofjljkcaaDoor
open Go.RowKit Lox Hil
set_option linter.unusedVariables false

set_option maxHeartbeats 400000 in
theorem rot2_0 (b n : Nat) (O : Int) (xs : List Int) (w : World) (hn : n ≤ 62) (hl : xs.length = 2) (hin : Ins n xs) (hb : Blk w b 3 (ints xs)) :
    Calls Tryd.prog 19 #[.agg #[.int .i64 O], .int .i64 n, .slice (some ⟨b, 0, none⟩) 2 2, .int .i64 0] w fun e w' => e = .returned (.tuple #[]) ∧ Blk w' b 3 (ints (rot2 n 0 xs)) ∧ Mod (· = b) w w' := by
  go_enter Tryd.func19, Tryd.ntmps19
  go_wp2_with fail
  refine (swap_do 0 1 b 2 2 n _ _ _ xs _ rfl rfl rfl hn (by omega) (by omega) (by decide) hl (by decide) hin (hb.alloc _)).mono ?_
  rintro e w1 ⟨rfl, hb1, hm1⟩
  go_wp2_with fail
  go_end0
  exact ⟨rfl, hb1, ((Mod.refl _ _).alloc _).trans hm1⟩

set_option maxHeartbeats 400000 in
theorem rot2_1 (b n : Nat) (O : Int) (xs : List Int) (w : World) (hn : n ≤ 62) (hl : xs.length = 2) (hin : Ins n xs) (hb : Blk w b 3 (ints xs)) :
    Calls Tryd.prog 19 #[.agg #[.int .i64 O], .int .i64 n, .slice (some ⟨b, 0, none⟩) 2 2, .int .i64 1] w fun e w' => e = .returned (.tuple #[]) ∧ Blk w' b 3 (ints (rot2 n 1 xs)) ∧ Mod (· = b) w w' := by
  go_enter Tryd.func19, Tryd.ntmps19
  go_wp2_with fail
  go_end0
  exact ⟨rfl, hb.alloc _, (Mod.refl _ _).alloc _⟩

set_option maxHeartbeats 400000 in
theorem rot2_2 (b n : Nat) (O : Int) (xs : List Int) (w : World) (hn : n ≤ 62) (hl : xs.length = 2) (hin : Ins n xs) (hb : Blk w b 3 (ints xs)) :
    Calls Tryd.prog 19 #[.agg #[.int .i64 O], .int .i64 n, .slice (some ⟨b, 0, none⟩) 2 2, .int .i64 2] w fun e w' => e = .returned (.tuple #[]) ∧ Blk w' b 3 (ints (rot2 n 2 xs)) ∧ Mod (· = b) w w' := by
  go_enter Tryd.func19, Tryd.ntmps19
  go_wp2_with fail
  go_end0
  exact ⟨rfl, hb.alloc _, (Mod.refl _ _).alloc _⟩

set_option maxHeartbeats 400000 in
theorem rot2_3 (b n : Nat) (O : Int) (xs : List Int) (w : World) (hn : n ≤ 62) (hl : xs.length = 2) (hin : Ins n xs) (hb : Blk w b 3 (ints xs)) :
    Calls Tryd.prog 19 #[.agg #[.int .i64 O], .int .i64 n, .slice (some ⟨b, 0, none⟩) 2 2, .int .i64 3] w fun e w' => e = .returned (.tuple #[]) ∧ Blk w' b 3 (ints (rot2 n 3 xs)) ∧ Mod (· = b) w w' := by
  go_enter Tryd.func19, Tryd.ntmps19
  go_wp2_with fail
  refine (flip_do 0 1 b 2 2 n _ _ _ xs _ rfl rfl rfl hn (by omega) (by omega) (by decide) hl (by decide) hin (hb.alloc _)).mono ?_
  rintro e w1 ⟨rfl, hb1, hm1⟩
  go_wp2_with fail
  go_end0
  exact ⟨rfl, hb1, ((Mod.refl _ _).alloc _).trans hm1⟩

theorem rot2_any (b n e : Nat) (O N E : Int) (xs : List Int) (w : World) (hN : N = n) (hE : E = e) (he : e < 4) (hn : n ≤ 62) (hl : xs.length = 2) (hin : Ins n xs) (hb : Blk w b 3 (ints xs)) :
    Calls Tryd.prog 19 #[.agg #[.int .i64 O], .int .i64 N, .slice (some ⟨b, 0, none⟩) 2 2, .int .i64 E] w fun e' w' => e' = .returned (.tuple #[]) ∧ Blk w' b 3 (ints (rot2 n e xs)) ∧ Mod (· = b) w w' := by
  subst hN hE
  have h : e = 0 ∨ e = 1 ∨ e = 2 ∨ e = 3 := by omega
  rcases h with rfl | rfl | rfl | rfl
  · exact rot2_0 b n O xs w hn hl hin hb
  · exact rot2_1 b n O xs w hn hl hin hb
  · exact rot2_2 b n O xs w hn hl hin hb
  · exact rot2_3 b n O xs w hn hl hin hb
end Go.Proofs.YtidbohofjljkcaaDoor
