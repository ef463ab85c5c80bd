/- The walk of the library's up over a keeper's heap. Conditions: as it says. -/
import Derived.Test.YtncpdjlladlalaaKdSwap
namespace Go.Proofs.Ytncpdjlladlalaa.D
open Go.RowKit Lox
set_option linter.unusedVariables false
variable {S : Nat}
attribute [local go_sem] run_store_flt run_store_fn

theorem kmeth_less (a : Addr) (w : World) : (method 261 94 (.pointer (some a)) "Less").run Try.prog w = .ok (102, .pointer (some a)) w := by kernel_rfl
theorem kmeth_swap (a : Addr) (w : World) : (method 261 94 (.pointer (some a)) "Swap").run Try.prog w = .ok (105, .pointer (some a)) w := by kernel_rfl

theorem upF_step {els : List El} {m : Nat} (h : lessE (at' els (m + 1)) (at' els (m / 2)) = true) : upF els (m + 1) = upF (swapE els (m / 2) (m + 1)) (m / 2) := by
  rw [upF, dif_neg (by omega)]
  have : par (m + 1) = m / 2 := rfl
  rw [this, if_pos h]

theorem upF_stop {els : List El} {m : Nat} (h : lessE (at' els (m + 1)) (at' els (m / 2)) = false) : upF els (m + 1) = els := by
  rw [upF, dif_neg (by omega)]
  have : par (m + 1) = m / 2 := rfl
  rw [this, if_neg (by rw [h]; exact Bool.false_ne_true)]

theorem upF_zero (els : List El) : upF els 0 = els := by rw [upF, dif_pos rfl]

set_option maxRecDepth 100000 in
set_option maxHeartbeats 4000000 in
theorem kup_at (kb hb len cap : Nat) (hl : len ≤ 1099511627776) (w0 : World) (j : Nat) (J : Int) (els : List El) (hJ : J = j) (h : DKS S w0 kb hb len cap els) (hj : j < len) :
    Calls Try.prog 72 #[.iface 94 (.pointer (some ⟨kb, 0, none⟩)), .int .i64 J] w0 fun e w' => e = .returned (.tuple #[]) ∧ DKS S w' kb hb len cap (upF els j) ∧ Mod (fun k => k = hb) w0 w' := by
  subst hJ
  have HK := Lib.hid h
  clear h
  have m1 := kmeth_less
  have m2 := kmeth_swap
  go_enter Try.func72, Try.ntmps72
  go_wp2_with fail
  go_loopw [1, 4] (fun j' _ w' => ∃ (i : Nat) (els' : List El), i < len ∧ j' = .int .i64 i ∧ Hid (DKS S w' kb hb len cap els' ∧ Mod (fun k => k = hb) w0 w' ∧ upF els' i = upF els j)) (fun j' _ _ => (intOf j').toNat)
  case atStart => exact ⟨j, els, hj, rfl, HK.out, Mod.refl _ _, rfl⟩
  case round =>
    obtain ⟨i, els', hi, rfl, HR⟩ := hrel
    by_cases h0 : i = 0
    · subst h0
      go_wp2_with fail
      refine bodyPost_end (by simp [results, Try.results72, go_sem]) rfl ⟨rfl, ?_, HR.out.2.1⟩
      rw [← HR.out.2.2, upF_zero]
      exact HR.out.1
    · obtain ⟨m, rfl⟩ : ∃ m, i = m + 1 := ⟨i - 1, by omega⟩
      have hm0 : (0 : Int) ≤ m := by omega
      have hm1 : (m : Int) ≤ 1099511627776 := by omega
      have hb1 : ((m : Int) / 2 == (m : Int) + 1) = false := by
        have : (m : Int) / 2 ≠ (m : Int) + 1 := by omega
        simpa using this
      clear h0
      obtain ⟨g, hg⟩ : ∃ g, g = lessE (at' els' (m + 1)) (at' els' (m / 2)) := ⟨_, rfl⟩
      have HG := Lib.hid hg
      clear hg
      cases g with
      | false =>
        go_wp2_with (go_at_call 102; refine (kless_at _ kb hb len cap els' (m + 1) (m / 2) ((m : Int) + 1) ((m : Int) / 2) (by omega) (by omega) HR.out.1 hi (by omega) hl).mono ?_; rw [← HG.out]; rintro _ _ ⟨rfl, n1, rfl⟩)
        refine bodyPost_end (by simp [results, Try.results72, go_sem]) rfl ⟨rfl, ?_, HR.out.2.1.trans (mod_drewN _ _ n1)⟩
        rw [← HR.out.2.2, upF_stop HG.out.symm]
        exact HR.out.1
      | true =>
        go_wp2_with (first | (go_at_call 102; refine (kless_at _ kb hb len cap els' (m + 1) (m / 2) ((m : Int) + 1) ((m : Int) / 2) (by omega) (by omega) HR.out.1 hi (by omega) hl).mono ?_; rw [← HG.out]; rintro _ _ ⟨rfl, n1, rfl⟩) | (go_at_call 105; refine (kswap_at _ kb hb len cap els' (m / 2) (m + 1) ((m : Int) / 2) ((m : Int) + 1) (by omega) (by omega) (HR.out.1.drewN n1) (by omega) hi (by omega) hl).mono ?_; rintro _ w2 ⟨rfl, hk2, hm2⟩; have HK2 := Lib.hid (And.intro hk2 hm2); clear hk2 hm2))
        go_roundw
        case rel => exact ⟨m / 2, swapE els' (m / 2) (m + 1), by omega, by go_num, HK2.out.1, (HR.out.2.1.trans (mod_drewN _ _ n1)).trans HK2.out.2, by rw [← upF_step HG.out.symm]; exact HR.out.2.2⟩
        case measure => simp [intOf]; omega
end Go.Proofs.Ytncpdjlladlalaa.D
