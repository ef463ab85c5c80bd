/- The walks of the reference's walk through a tree. Conditions: as each says. -/
import Derived.Test.YtncpdjlladlalaaTkFl
import Derived.Deep.RegionLaw
namespace Go.Proofs.Ytncpdjlladlalaa
open Go.RowKit Lox
set_option linter.unusedVariables false

set_option maxHeartbeats 1000000 in
theorem sides_at (T : Option Addr) (c : Nat) (xs : List KN) (pt : Nat) (i : Nat) (x : KN) (w : World) (hb : Blk w pt 37 [.slice T xs.length c]) (h : KNodes w T xs) (hi : xs[i]? = some x) :
    Calls Try.prog 33 #[.int .i64 i, .pointer (some ⟨pt, 0, none⟩)] w fun e w' => e = .returned (.tuple #[.int .i64 x.c, .int .i64 x.f]) ∧ Mod (fun _ => False) w w' := by
  have cp := hb.at (i := 0) rfl
  obtain ⟨m, hm⟩ : ∃ m, m = xs.length := ⟨_, rfl⟩
  have him : i < m := by rw [hm]; exact (List.getElem?_eq_some_iff.1 hi).1
  have hml : m ≤ 9223372036854775807 := by rw [hm]; exact h.1
  obtain ⟨b, o, e, hc⟩ := h.2.1 (by omega)
  have hx := hc _ _ hi
  rw [← hm] at cp
  clear hm hi h hc hb
  obtain ⟨⟨A, n, c', ys⟩, r, cl, fu, ⟨A1, n1, k1, ys1⟩, ⟨A2, n2, k2, ys2⟩⟩ := x
  obtain ⟨c0, c1, c2, c3, c4, c5⟩ := hx
  simp only [Pt.v] at c0 c1 c2 c3 c4 c5
  subst e
  go_enter Try.func33, Try.ntmps33
  go_wp2
  go_region
  go_wp2
  exact bodyPost_ret (v := .tuple #[.int .i64 cl, .int .i64 fu]) (by simp [results, Try.results33, go_sem]) rfl ⟨rfl, (Mod.refl _ _).drew⟩

end Go.Proofs.Ytncpdjlladlalaa
