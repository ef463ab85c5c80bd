/- The walks of FnTkWalk's first lines at the edges: a list that is too long, and the empty one. Conditions: as each says. -/
import Derived.Test.YtncpdjlladlalaaTkWalk
namespace Go.Proofs.Ytncpdjlladlalaa
open Go.RowKit Lox
set_option linter.unusedVariables false
attribute [local go_sem] run_store_flt run_store_fn

theorem fits8_no (T : Option Addr) (c n : Nat) (w : World) (hn : 2147483647 < n) : Calls Try.prog 13 #[.slice T n c] w fun e w' => e = .returned (.bool false) ∧ w' = w := by
  go_enter Try.func13, Try.ntmps13
  go_wp2
  go_ret
  exact ⟨rfl, rfl⟩

set_option maxHeartbeats 4000000 in
theorem walk_empty (sd : Fn) (cs : Array Value) (w : World) :
    Calls Try.prog 24 #[.int .i64 0, .func sd #[] cs] w fun e w' => e = .returned (.tuple #[.slice none 0 0, .slice none 0 0, .bool true]) ∧ Mod (fun _ => False) w w' := by
  have hmk := run_make_row' (P := Try.prog) 97 4 (.bool false) 1 Try.underlying97 info_bool rfl .i64 .i64 0 (by omega) (by omega)
  have hmk' : ∀ (w : World), (Instr.makeSlice 97 (.int .i64 0) (.int .i64 0)).run Try.prog w = .ok (.slice (some ⟨w.heap.size, 0, none⟩) 0 0) (w.alloc (.cells (madeCells #[.bool false] 0) 4)) := hmk
  clear hmk
  obtain ⟨H, hH⟩ : ∃ H, w.heap.size = H := ⟨_, rfl⟩
  go_enter Try.func24, Try.ntmps24
  go_wp2_with fail
  go_region
  go_wp2_with fail
  exact bodyPost_ret (v := .tuple #[.slice none 0 0, .slice none 0 0, .bool true]) (by simp [results, Try.results24, go_sem, hH]) rfl ⟨rfl, ((((((((((Mod.refl _ _).alloc _).alloc _).alloc _).alloc _).alloc _).alloc _).alloc _).alloc _).drew)⟩

set_option maxHeartbeats 1000000 in
theorem vwalk_empty (T : Option Addr) (c : Nat) (w : World) :
    Calls Try.prog 14 #[.slice T 0 c] w fun e w' => e = .returned (.tuple #[.slice none 0 0, .slice none 0 0, .bool true]) ∧ Mod (fun _ => False) w w' := by
  go_enter Try.func14, Try.ntmps14
  go_wp2_with (go_at_call 24; refine (walk_empty _ _ _).mono ?_; rintro _ w1 ⟨rfl, hM⟩)
  exact bodyPost_ret (v := .tuple #[.slice none 0 0, .slice none 0 0, .bool true]) (by simp [results, Try.results14, go_sem]) rfl ⟨rfl, ((Mod.refl _ _).alloc _).trans hM⟩
end Go.Proofs.Ytncpdjlladlalaa
