/- The walk of the making of a keeper within a distance. Conditions: none. -/
import Derived.Test.YtncpdjlladlalaaKdKeep
namespace Go.Proofs.Ytncpdjlladlalaa.D
open Go.RowKit Lox
set_option linter.unusedVariables false
attribute [local go_sem] run_store_flt run_store_fn

set_option maxRecDepth 100000 in
set_option maxHeartbeats 4000000 in
theorem knew_at (w : World) (S : Nat) :
    Calls Try.prog 50 #[.float .f64 S] w fun e w' => e = .returned (.pointer (some ⟨w.heap.size + 1, 0, none⟩)) ∧ DKS S w' (w.heap.size + 1) w.heap.size 1 1 [none] ∧ Mod (fun _ => False) w w' := by
  obtain ⟨W, eW⟩ : ∃ W, W = (w.alloc (.cells #[.nilIface, .float .f64 S] 88)).alloc (.cells #[.slice (some ⟨w.heap.size, 0, none⟩) 1 1] 96) := ⟨_, rfl⟩
  have bH : Blk W w.heap.size 88 [.nilIface, .float .f64 S] := by
    rw [eW]
    exact (Blk.new' w #[.nilIface, .float .f64 S] 88).alloc _
  have bK : Blk W (w.heap.size + 1) 96 [.slice (some ⟨w.heap.size, 0, none⟩) 1 1] := by
    rw [eW]
    have := Blk.new' (w.alloc (.cells #[.nilIface, .float .f64 S] 88)) #[.slice (some ⟨w.heap.size, 0, none⟩) 1 1] 96
    rw [World.size_alloc] at this
    exact this
  have hm : Mod (fun _ => False) w W := by rw [eW]; exact ((Mod.refl _ _).alloc _).alloc _
  have HK := Lib.hid (And.intro bH (And.intro bK hm))
  have HE := Lib.hid eW
  clear bH bK hm eW
  go_enter Try.func50, Try.ntmps50
  go_wp2_with fail
  go_ret
  try rw [← HE.out]
  refine ⟨rfl, ⟨[(.nilIface, S)], [], HK.out.2.1, HK.out.1, rfl, rfl, Nat.le_refl _, ⟨rfl, fun i v b hv => ?_⟩, by omega⟩, HK.out.2.2⟩
  cases i with
  | zero => simp at hv; obtain ⟨rfl, rfl⟩ := hv; exact ⟨rfl, rfl⟩
  | succ i => simp at hv
end Go.Proofs.Ytncpdjlladlalaa.D
