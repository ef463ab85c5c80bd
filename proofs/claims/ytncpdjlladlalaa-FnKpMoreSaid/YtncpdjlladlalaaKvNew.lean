/- The walk of a keeper's making. Conditions: as it says. -/
import Derived.Test.YtncpdjlladlalaaKvKeep2
import Derived.Test.YtncpdjlladlalaaKpInf
import Derived.Deep.OwnRows
namespace Go.Proofs.Ytncpdjlladlalaa.V
open Go.RowKit Lox
set_option linter.unusedVariables false
attribute [local go_sem] run_store_flt run_store_fn

theorem made_pairs (n : Nat) : (madeCells #[.nilIface, .float .f64 0] (n * 2)).toList = flat (List.replicate n (.nilIface, 0)) := by
  have h1 : (flat (List.replicate n (.nilIface, 0))).length = n * 2 := by rw [flat_length, List.length_replicate]; omega
  apply List.ext_getElem?
  intro i
  by_cases hi : i < n * 2
  · have hk : i / 2 < n := by omega
    have hg := flat_get (List.replicate n (Value.nilIface, 0)) (i / 2) .nilIface 0 (by simp [hk])
    simp only [madeCells, Array.toList_map, Array.toList_range, List.getElem?_map, List.getElem?_range hi, Option.map_some]
    rcases Nat.mod_two_eq_zero_or_one i with h | h
    · have e : i / 2 * 2 = i := by omega
      rw [e] at hg
      rw [hg.1]
      simp [h]
    · have e : i / 2 * 2 + 1 = i := by omega
      rw [e] at hg
      rw [hg.2]
      simp [h]
  · rw [List.getElem?_eq_none (by simp [madeCells]; omega), List.getElem?_eq_none (by omega)]

set_option maxRecDepth 100000 in
set_option maxHeartbeats 4000000 in
theorem knew_at (w : World) (n : Nat) (h0 : 0 < n) (hl : n ≤ 1099511627776) :
    Calls Try.prog 40 #[.int .i64 n] w fun e w' => e = .returned (.pointer (some ⟨w.heap.size + 1, 0, none⟩)) ∧ KKS w' (w.heap.size + 1) w.heap.size 1 n [none] ∧ Mod (fun _ => False) w w' := by
  obtain ⟨i0, hi0, hz0, hz1, hz2⟩ := info_parts kinfo_cd
  have hmk : ∀ w : World, (Instr.makeSlice 80 (.int .i64 1) (.int .i64 (n : Int))).run Try.prog w = .ok (.slice (some ⟨w.heap.size, 0, none⟩) 1 n) (w.alloc (.cells (madeCells #[.nilIface, .float .f64 0] (n * 2)) 77)) := fun w => by
    have := run_make (P := Try.prog) w 80 77 i0 _ Try.underlying80 hi0 hz0 .i64 .i64 1 (n : Int) (by omega) (by omega) (by rw [hz2]; omega) (by omega)
    rw [hz1] at this
    exact this
  clear hi0 hz0 hz1 hz2
  obtain ⟨C, hC⟩ : ∃ C, C = madeCells #[Value.nilIface, .float .f64 0] (n * 2) := ⟨_, rfl⟩
  rw [← hC] at hmk
  obtain ⟨W, eW⟩ : ∃ W, W = (w.alloc (.cells C 77)).alloc (.cells #[.slice (some ⟨w.heap.size, 0, none⟩) 1 n] 82) := ⟨_, rfl⟩
  have bH : Blk W w.heap.size 77 (.nilIface :: .float .f64 0 :: flat (List.replicate (n - 1) (.nilIface, 0))) := by
    rw [eW]
    have e : (.nilIface :: .float .f64 0 :: flat (List.replicate (n - 1) (.nilIface, 0)) : List Value) = C.toList := by
      rw [hC, made_pairs]
      obtain ⟨m, rfl⟩ : ∃ m, n = m + 1 := ⟨n - 1, by omega⟩
      rfl
    rw [e]
    exact (Blk.new' w C 77).alloc _
  have bK : Blk W (w.heap.size + 1) 82 [.slice (some ⟨w.heap.size, 0, none⟩) 1 n] := by
    rw [eW]
    have := Blk.new' (w.alloc (.cells C 77)) #[.slice (some ⟨w.heap.size, 0, none⟩) 1 n] 82
    rw [World.size_alloc] at this
    exact this
  have hm : Mod (fun _ => False) w W := by rw [eW]; exact ((Mod.refl _ _).alloc _).alloc _
  have c0 := bK.at (i := 0) rfl
  have d1 := bH.at (i := 1) rfl
  have f1 := bH.frozen 1
  have HK : Hid (Blk W w.heap.size 77 (.nilIface :: .float .f64 0 :: flat (List.replicate (n - 1) (.nilIface, 0))) ∧ Blk W (w.heap.size + 1) 82 [.slice (some ⟨w.heap.size, 0, none⟩) 1 n] ∧ Mod (fun _ => False) w W) := ⟨bH, bK, hm⟩
  have HE := Lib.hid eW
  clear bH bK hm hC eW
  go_enter Try.func40, Try.ntmps40
  go_wp2_with fail
  rw [← HE.out]
  go_region_with (go_at_call 60; refine (inf_at _).mono ?_; rintro _ _ ⟨rfl, rfl⟩)
  all_goals
    go_wp2_with fail
    go_ret
    have hb := (HK.out.1.set 1 (.float .f64 INF)).drew
    refine ⟨rfl, ⟨[(.nilIface, INF)], flat (List.replicate (n - 1) (.nilIface, 0)), (HK.out.2.1.other _ (by show w.heap.size ≠ w.heap.size + 1; omega)).drew, hb, by rw [flat_length, List.length_replicate], rfl, h0, ⟨rfl, fun i v b hv => ?_⟩, by omega⟩, ?_⟩
    · cases i with
      | zero => simp at hv; obtain ⟨rfl, rfl⟩ := hv; exact ⟨rfl, rfl⟩
      | succ i => simp at hv
    · have h2 : Mod (fun _ => False) w (W.setCell ⟨w.heap.size, 1, none⟩ (.float .f64 INF)) := HK.out.2.2.set (p := ⟨w.heap.size, 1, none⟩) (.inr (Nat.le_refl _)) _
      exact h2.drew
end Go.Proofs.Ytncpdjlladlalaa.V
