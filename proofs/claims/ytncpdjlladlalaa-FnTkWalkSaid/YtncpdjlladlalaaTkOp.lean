/- The walk of the operation that the thin package hands to Do. Conditions: as it says. -/
import Derived.Test.YtncpdjlladlalaaTkDw
namespace Go.Proofs.Ytncpdjlladlalaa
open Go.RowKit Lox
set_option linter.unusedVariables false
attribute [local go_sem] run_store_flt run_store_fn
attribute [local go_sem ↓] Go.wp_at_zero Go.wp_at_succ

theorem info_int' : (Try.prog.info? 3).map (fun i => (i.zero, i.size, i.bytes)) = some (some (.int .i64 0), 1, 8) := by kernel_rfl
theorem info_row : (Try.prog.info? 27).map (fun i => (i.zero, i.size, i.bytes)) = some (some (.slice none 0 0), 1, 24) := by kernel_rfl

theorem run_assert (v : Value) (w : World) : (Instr.typeAssert (.iface 71 v) 69 71 false).run Try.prog w = .ok v w := by
  simp [Instr.typeAssert, run_underlying Try.underlying71, go_sem, Result.andThen]

set_option maxHeartbeats 4000000 in
theorem op_at (H : Nat) (wB w : World) (ls : List (List Nat)) (ds : List Int) (stop D : Int) (bq : Option Addr) (A : Option Addr) (m cc : Nat) (xs : List Nat) (h : DW H wB w ls ds) (hst : Blk wB H 3 [.int .i64 stop]) (hs : Sl w A m 1 (flts xs)) (h0 : 0 < m) (hm : m ≤ 1099511627776) (hls : ls.length ≤ 2147483647) (hds : ds.length ≤ 2147483647) :
    Calls Try.prog 38 #[.iface 71 (.slice A m cc), .pointer bq, .int .i64 D, .pointer (some ⟨H + 1, 0, none⟩), .pointer (some ⟨H + 2, 0, none⟩), .pointer (some ⟨H, 0, none⟩)] w fun e w' => e = .returned (.bool ((ls.length : Int) + 1 == stop)) ∧ DW H wB w' (ls ++ [xs]) (ds ++ [D]) := by
  have hta := run_assert
  obtain ⟨i0, hi0, hz0, hz1, hz2⟩ := info_parts info_row
  have HI := Lib.hid (And.intro hi0 (And.intro hz0 (And.intro hz1 hz2)))
  clear hi0 hz0 hz1 hz2
  obtain ⟨i1, hi0, hz0, hz1, hz2⟩ := info_parts info_int'
  have HJ := Lib.hid (And.intro hi0 (And.intro hz0 (And.intro hz1 hz2)))
  clear hi0 hz0 hz1 hz2
  obtain ⟨v1, v2, gs, b1, b2, o1, o2, hp, hne⟩ := h.rows
  have cL := b1.at (i := 0) rfl
  have fL := b1.frozen 0
  have hlow := h.low
  have hB := h.mod.size
  have n1 : v1.ownBlock ≠ some (H + 1) := fun e => by have := (own_ge' o1 e).1; omega
  have hL : H + 1 < w.heap.size := by omega
  have HK := Lib.hid (And.intro h (And.intro b1 (And.intro b2 (And.intro o1 (And.intro o2 (And.intro hp hne))))))
  have HS : Hid (Sl w A m 1 (flts xs) ∧ Blk wB H 3 [.int .i64 stop]) := ⟨hs, hst⟩
  clear h b1 b2 o1 o2 hp hne hs hst
  go_enter Try.func38, Try.ntmps38
  go_wp2_with fail
  go_cut [] from 10 to 15 (fun wx => DW H wB wx (ls ++ [xs]) ds)
  case first =>
    go_region_law
      (first
        | (go_simp; go_at_call 31; (refine (floats_any A m cc xs _ HS.out.1.drew hm h0).mono ?_; rintro _ w1 ⟨A2, c2, rfl, hs2, hm2, hb2⟩; have hw1 : Mod (fun _ => False) w w1 := ((Mod.refl _ _).drew.trans hm2); have hz := hw1.size; have hL1 : H + 1 < w1.heap.size := (by omega); have cL1 : w1.cell? ⟨H + 1, 0, none⟩ = some v1 := (hw1.cell hL (fun h => h)).trans cL))
        | ((refine step_append_lies _ (by rfl) _ _ _ (by rfl) wB.heap.size 27 i0 _ 1 24 Try.underlying32 HI.out.1 HI.out.2.1 HI.out.2.2.1 HI.out.2.2.2 rfl (by omega) v1 ls.length gs (by rfl) ((HK.out.2.2.2.1.kept hw1.grownBy (Decidable.em _)).alloc _) ⟨w1.heap.size, 0, none⟩ 1 1 [.slice A2 m c2] (by rfl) (by rfl) (World.news_of_block (cs := #[.slice A2 m c2]) (t := 27) (fr := (0, 0)) (heap_alloc_new w1 _)) (by simp [Value.oneCell']) (by omega) (by unfold maxLen; omega) (by omega) (by simp; omega) (w1.heap.size + 1) (by simp) ?_; intro gg cap w3 hown3 hgrow hat hlt3; have cL3 : w3.cell? ⟨H + 1, 0, none⟩ = some v1 := (hgrow.cell_far _ (by rw [World.size_alloc]; exact Nat.lt_succ_of_lt hL1) (Ne.symm n1)).trans ((World.cell?_alloc_past _ _ _ hL1).trans cL1); have fz3 : w3.frozen? ⟨H + 1, 0, none⟩ = false := (hgrow.frozen_far _ (by rw [World.size_alloc]; exact Nat.lt_succ_of_lt hL1) (Ne.symm n1)).trans ((World.frozen?_alloc_past _ _ _ hL1).trans ((hw1.frozen hL (fun h => h)).trans fL)))))
    all_goals
      go_wp2_with fail
      go_meet
      exact HK.out.1.push1 HK.out.2.1 HK.out.2.2.1 HK.out.2.2.2.1 HK.out.2.2.2.2.1 HK.out.2.2.2.2.2.1 HK.out.2.2.2.2.2.2 hw1 hs2 (fun b o e => ⟨hb2 b o e, hs2.far (by omega) h0 b o e⟩) hm hown3 hgrow hat
  case rest =>
    clear cL fL
    obtain ⟨u1, u2, gs1, b1, b2, o1, o2, hp, hne⟩ := hcut.rows
    have hl1 : 0 < (ls ++ [xs]).length := by simp
    obtain ⟨bb, ccap, rfl, hbb, hbl⟩ := o1.form hl1
    obtain ⟨q, hq⟩ : ∃ q, q = (ls ++ [xs]).length := ⟨_, rfl⟩
    have hq2 : q = ls.length + 1 := by rw [hq]; simp
    have cL : wc.cell? ⟨H + 1, 0, none⟩ = some (.slice (some ⟨bb, 0, none⟩) q ccap) := by rw [hq]; exact b1.at (i := 0) rfl
    have cD := b2.at (i := 0) rfl
    have fD := b2.frozen 0
    have hB2 := hcut.mod.size
    have cS : wc.cell? ⟨H, 0, none⟩ = some (.int .i64 stop) := (hcut.mod.cell (by show H < _; omega) (by simp)).trans (HS.out.2.at (i := 0) rfl)
    have n2 : u2.ownBlock ≠ some (H + 2) := fun e => by have := (own_ge' o2 e).1; omega
    have n21 : u2.ownBlock ≠ some (H + 1) := fun e => by have := (own_ge' o2 e).1; omega
    have n20 : u2.ownBlock ≠ some H := fun e => by have := (own_ge' o2 e).1; omega
    have hL2 : H + 2 < wc.heap.size := by omega
    have hL1 : H + 1 < wc.heap.size := by omega
    have hL0 : H < wc.heap.size := by omega
    have HK2 := Lib.hid (And.intro hcut (And.intro b1 (And.intro b2 (And.intro o1 (And.intro o2 (And.intro hp hne))))))
    have HO := Lib.hid o2
    have HQ := Lib.hid hq
    clear hcut b1 b2 o1 o2 hp hne hq hl1
    go_wp2_with (at_builtin; refine wpList_append_lies _ rfl _ _ _ rfl wB.heap.size 3 i1 (.int .i64 0) 1 8 Try.underlying24 HJ.out.1 HJ.out.2.1 HJ.out.2.2.1 HJ.out.2.2.2 rfl (by decide) u2 ds.length (ints ds) rfl (HO.out.alloc _) ⟨wc.heap.size, 0, none⟩ 1 1 [.int .i64 D] rfl rfl (World.news_of_block (cs := #[.int .i64 D]) (t := 3) (fr := (0, 0)) (heap_alloc_new wc _)) (by simp [Value.oneCell']) (by omega) (by unfold maxLen; omega) (by omega) (by simp; omega) (wc.heap.size + 1) (by simp) ?_; intro gg cap w3 hown3 hgrow hat hlt3; have x0 : w3.cell? ⟨H, 0, none⟩ = some (.int .i64 stop) := (hgrow.cell_far _ (by rw [World.size_alloc]; exact Nat.lt_succ_of_lt hL0) (Ne.symm n20)).trans ((World.cell?_alloc_past _ _ _ hL0).trans cS); have x1 : w3.cell? ⟨H + 1, 0, none⟩ = some (.slice (some ⟨bb, 0, none⟩) q ccap) := (hgrow.cell_far _ (by rw [World.size_alloc]; exact Nat.lt_succ_of_lt hL1) (Ne.symm n21)).trans ((World.cell?_alloc_past _ _ _ hL1).trans cL); have x2 : w3.cell? ⟨H + 2, 0, none⟩ = some u2 := (hgrow.cell_far _ (by rw [World.size_alloc]; exact Nat.lt_succ_of_lt hL2) (Ne.symm n2)).trans ((World.cell?_alloc_past _ _ _ hL2).trans cD); have x3 : w3.frozen? ⟨H + 2, 0, none⟩ = false := (hgrow.frozen_far _ (by rw [World.size_alloc]; exact Nat.lt_succ_of_lt hL2) (Ne.symm n2)).trans ((World.frozen?_alloc_past _ _ _ hL2).trans fD))
    go_ret
    have hq' := HQ.out
    refine ⟨rfl, ?_⟩
    exact HK2.out.1.push2 HK2.out.2.1 HK2.out.2.2.1 HK2.out.2.2.2.1 HK2.out.2.2.2.2.1 HK2.out.2.2.2.2.2.1 HK2.out.2.2.2.2.2.2 hown3 hgrow hat
end Go.Proofs.Ytncpdjlladlalaa
