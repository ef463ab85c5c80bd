/- The walk of a keeper's Swap. Conditions: as it says. -/
import Derived.Test.YtncpdjlladlalaaKkLess
namespace Go.Proofs.Ytncpdjlladlalaa
open Go.RowKit Lox
set_option linter.unusedVariables false
attribute [local go_sem] run_store_flt run_store_fn undef

theorem elAt_one {PT : TypeId} {v : Value} {b : Nat} {x : El} (h : ElAt PT v b x) : v.oneCell' = true := by
  cases x with
  | none => rw [h.1]; rfl
  | some d => obtain ⟨_, _, A, rfl⟩ := h; rfl

set_option maxHeartbeats 4000000 in
theorem kswap_at (w : World) (kb hb len cap : Nat) (els : List El) (i j : Nat) (I J : Int) (hI : I = i) (hJ : J = j) (h : KKS w kb hb len cap els) (hi : i < len) (hj : j < len) (hne : i ≠ j) (hl : len ≤ 1099511627776) :
    Calls Try.prog 105 #[.pointer (some ⟨kb, 0, none⟩), .int .i64 I, .int .i64 J] w fun e w' => e = .returned (.tuple #[]) ∧ KKS w' kb hb len cap (swapE els i j) ∧ Mod (fun k => k = hb) w w' := by
  subst hI hJ
  have c0 := h.top.1
  obtain ⟨v, b, d0, d1, z0, z1, he⟩ := h.at hi
  obtain ⟨u, c, g0, g1, y0, y1, hf⟩ := h.at hj
  have i1 : (0 : Int) ≤ i := by omega
  have i2 : (i : Int) < len := by omega
  have j1 : (0 : Int) ≤ j := by omega
  have j2 : (j : Int) < len := by omega
  have n1 : i * 2 ≠ j * 2 := by omega
  have n2 : i * 2 ≠ j * 2 + 1 := by omega
  have n3 : i * 2 + 1 ≠ j * 2 := by omega
  have n4 : i * 2 + 1 ≠ j * 2 + 1 := by omega
  have HH := Lib.hid (And.intro h (And.intro he hf))
  have su : ∀ (w : World) (a : Addr) (m : Mode), (store a u m).run Try.prog w = stored Try.prog w a u m := fun w a m => run_store _ w a u m (elAt_one hf)
  have sv : ∀ (w : World) (a : Addr) (m : Mode), (store a v m).run Try.prog w = stored Try.prog w a v m := fun w a m => run_store _ w a v m (elAt_one he)
  clear h he hf hne
  go_enter Try.func105, Try.ntmps105
  go_wp2
  go_region
  all_goals
    have hK : KKS (((((w.setCell ⟨hb, i * 2, none⟩ u).setCell ⟨hb, i * 2 + 1, none⟩ (.float .f64 c)).setCell ⟨hb, j * 2, none⟩ v).setCell ⟨hb, j * 2 + 1, none⟩ (.float .f64 b)).drew) kb hb len cap (swapE els i j) := ((HH.out.1.put hi HH.out.2.2).put hj HH.out.2.1).drew
    have hM := ((mod_put (mod_put (Mod.refl (fun k => k = hb) w) (a := i * 2) (b := i * 2 + 1) (x := u) (y := .float .f64 c)) (a := j * 2) (b := j * 2 + 1) (x := v) (y := .float .f64 b))).drew
    refine bodyPost_end (by simp [results, Try.results105, go_sem]) rfl ⟨rfl, hK, hM⟩
end Go.Proofs.Ytncpdjlladlalaa
