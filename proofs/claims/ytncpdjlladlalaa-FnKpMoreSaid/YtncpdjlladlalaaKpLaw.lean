/- The walk of the law FnKpKept. Conditions: none on the arguments but that they are rows of numbers. -/
import Derived.Test.YtncpdjlladlalaaKpLook
import Derived.Test.YtncpdjlladlalaaKkKept
namespace Go.Proofs.Ytncpdjlladlalaa
open Go.RowKit Lox
set_option linter.unusedVariables false
attribute [local go_sem] run_store_flt run_store_fn

theorem kept_k {run : List Nat → List El} {ds : List Nat} {m : Nat} {w w' : World} {e : Ending} (h : KeptTold (rowsOf run ds m) w e w') :
    ∃ A c gs, e = .returned (.tuple #[.slice A m c, .bool true]) ∧ Hid (Mod (fun _ => False) w w' ∧ Sl w' A m 1 gs ∧
      ∀ (i : Nat) (v : Value) (xs : List Nat), gs[i]? = some v → (rowsOf run ds m)[i]? = some xs → ∃ A n c, v = .slice A n c ∧ n ≤ 1099511627776 ∧ Sl w' A n 1 (flts xs)) := by
  obtain ⟨A, c, gs, h1, h2, h3, h4, h5⟩ := h
  rw [rowsOf_length] at h1 h3
  exact ⟨A, c, gs, h1, h2, h3, h5⟩

set_option maxRecDepth 100000 in
set_option maxHeartbeats 4000000 in
theorem fnKpKept_at (n : Int) (T : Option Addr) (k c : Nat) (xs : List Nat) (w : World) (h : Sl w T k 1 (flts xs)) (hkc : k ≤ c) (hc : c ≤ 9223372036854775807) :
    Calls Try.prog 6 #[.int .i64 n, .slice T k c] w fun e w' => e = .returned (.bool true) ∧ Mod (fun _ => False) w w' := by
  have HN := Lib.hid h
  clear h
  go_enter Try.func6, Try.ntmps6
  by_cases hbig : 2147483647 < k
  · go_wp2_with fail
    go_ret
    exact ⟨rfl, Mod.refl _ _⟩
  · by_cases h1 : n < 1
    · go_wp2_with fail
      go_ret
      exact ⟨rfl, Mod.refl _ _⟩
    · by_cases h2 : 100 < n
      · go_wp2_with fail
        go_ret
        exact ⟨rfl, Mod.refl _ _⟩
      · obtain ⟨N, rfl⟩ : ∃ N : Nat, n = N := ⟨n.toNat, by omega⟩
        go_wp2_with (first
          | (go_at_call 17; refine (asked_at T k c xs w HN.out (by omega)).mono ?_; rintro _ w1 ⟨⟨b1, rfl, hb1⟩, rfl⟩; have HB := Lib.hid hb1; clear hb1; cases b1)
          | (go_at_call 20; refine (kkept_at T c k N xs w HN.out (by omega) (by omega) (by omega) (fun d hd => ((HB.out (by trivial)).1 d hd).1)).mono ?_; intro e2 w2 hk2; obtain ⟨A2, c2, gs, rfl, H2⟩ := kept_k hk2; clear hk2)
          | (go_at_call 19; refine (look_yes (runK N) T A2 c c2 k N xs gs w2 (runK_kept (by omega)) (HN.out.mod H2.out.1) hkc H2.out.2.1 H2.out.2.2 (fun d hd => (HB.out (by trivial)).1 d hd) (by omega) (by omega) ((HB.out (by trivial)).2) hc).mono ?_; rintro _ w3 ⟨rfl, hm3⟩; have H3 := Lib.hid hm3; clear hm3))
        · go_ret
          exact ⟨rfl, Mod.refl _ _⟩
        · go_ret
          exact ⟨rfl, H2.out.1.trans H3.out⟩
end Go.Proofs.Ytncpdjlladlalaa
