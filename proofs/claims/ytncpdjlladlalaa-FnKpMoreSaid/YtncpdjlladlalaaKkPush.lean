/- The walk of a keeper's Push, where there is room. Conditions: as it says. -/
import Derived.Test.YtncpdjlladlalaaKkDown
import Derived.Deep.RegionLaw
import Derived.Deep.AppendLies
import Derived.Deep.DrawnRows
namespace Go.Proofs.Ytncpdjlladlalaa
open Go.RowKit Lox
set_option linter.unusedVariables false
attribute [local go_sem] run_store_flt run_store_fn
attribute [local go_sem ↓] Go.wp_at_zero Go.wp_at_succ

theorem kinfo_cd : (Try.prog.info? 88).map (fun i => (i.zero, i.size, i.bytes)) = some (some (.agg #[.nilIface, .float .f64 0]), 2, 24) := by kernel_rfl

theorem run_assert_cd (v : Value) (w : World) : (Instr.typeAssert (.iface 88 v) 20 88 false).run Try.prog w = .ok v w := by
  simp [Instr.typeAssert, run_underlying Try.underlying88, go_sem, Result.andThen]

theorem setCells_two (w : World) (b o : Nat) (x y : Value) : w.setCells b o [x, y] = (w.setCell ⟨b, o, none⟩ x).setCell ⟨b, o + 1, none⟩ y := rfl

theorem mod_three {S : Nat → Prop} {hb kb : Nat} (w : World) (h1 : S hb) (h2 : S kb) (a b c : Nat) (x y z : Value) : Mod S w (((w.setCell ⟨hb, a, none⟩ x).setCell ⟨hb, b, none⟩ y).setCell ⟨kb, c, none⟩ z) := by
  have e1 : Mod S w (w.setCell ⟨hb, a, none⟩ x) := (Mod.refl S w).set (p := ⟨hb, a, none⟩) (.inl h1) x
  have e2 : Mod S w ((w.setCell ⟨hb, a, none⟩ x).setCell ⟨hb, b, none⟩ y) := e1.set (p := ⟨hb, b, none⟩) (.inl h1) y
  exact e2.set (p := ⟨kb, c, none⟩) (.inl h2) z

set_option maxHeartbeats 4000000 in
theorem kpushm_at (w : World) (kb hb len cap d : Nat) (A : Value) (els : List El) (h : KKS w kb hb len cap els) (hr : len < cap) (hl : cap ≤ 1099511627776) (hd : Lox.Fin d) :
    Calls Try.prog 104 #[.pointer (some ⟨kb, 0, none⟩), .iface 88 (.agg #[.iface 71 A, .float .f64 d])] w fun e w' => e = .returned (.tuple #[]) ∧ KKS w' kb hb (len + 1) cap (els ++ [some d]) ∧ Mod (fun k => k = hb ∨ k = kb) w w' := by
  obtain ⟨i0, hi0, hz0, hz1, hz2⟩ := info_parts kinfo_cd
  have HI := Lib.hid (And.intro hi0 (And.intro hz0 (And.intro hz1 hz2)))
  clear hi0 hz0 hz1 hz2
  have hta := run_assert_cd
  have c0 := h.top.1
  have z0 := h.top.2
  obtain ⟨hne, hkb, hhb, -, -⟩ := h.bds
  have HK := Lib.hid h
  clear h
  go_enter Try.func104, Try.ntmps104
  go_wp2_with fail
  go_region_law ((refine step_append_room (by rfl) (.tmp 7) (.tmp 10) 91 (by rfl) 88 i0 2 Try.underlying91 HI.out.1 HI.out.2.2.1 hb 0 len cap (by rfl) ⟨w.heap.size, 0, none⟩ 1 1 [.iface 71 A, .float .f64 d] (by rfl) (by rfl) (World.news_of_block (cs := #[.iface 71 A, .float .f64 d]) (t := 88) (fr := (0, 0)) (heap_alloc_new w _)) (by simp [Value.oneCell']) (by omega) (by intro j hj; rw [Nat.zero_add]; exact (HK.out.alloc _).room hr j hj) ?_; rw [setCells_two, Nat.zero_add]))
  all_goals
    have hK := ((HK.out.push hr (v := .iface 71 A) (b := d) (x := some d) ⟨rfl, hd, A, rfl⟩).alloc (.cells #[.iface 71 A, .float .f64 d] 88)).drew
    have hM := ((mod_three (S := fun k => k = hb ∨ k = kb) w (.inl rfl) (.inr rfl) (len * 2) (len * 2 + 1) 0 (.iface 71 A) (.float .f64 d) (.slice (some ⟨hb, 0, none⟩) (len + 1) cap)).alloc (.cells #[.iface 71 A, .float .f64 d] 88)).drew
    exact bodyPost_end (by simp [results, Try.results104, go_sem]) rfl ⟨rfl, hK, hM⟩
end Go.Proofs.Ytncpdjlladlalaa
