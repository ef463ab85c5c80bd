/- The walks of a keeper's Len, Less and Swap. Conditions: as each says. -/
import Derived.Test.YtncpdjlladlalaaKpMem
import Derived.Test.YtncpdjlladlalaaTrGrid
import Derived.Deep.QuietTactic
import Derived.BigQuiet
namespace Go.Proofs.Ytncpdjlladlalaa
open Go.RowKit Lox
set_option linter.unusedVariables false
attribute [local go_sem] run_store_flt run_store_fn undef

abbrev KKS (w : World) (kb hb len cap : Nat) (els : List El) : Prop := KS 93 88 71 w kb hb len cap els

set_option maxHeartbeats 1000000 in
theorem klen_at (w : World) (kb hb len cap : Nat) (els : List El) (h : KKS w kb hb len cap els) :
    Calls Try.prog 101 #[.pointer (some ⟨kb, 0, none⟩)] w fun e w' => e = .returned (.int .i64 len) ∧ w = w' := by
  have c0 := h.top.1
  clear h
  go_enter Try.func101, Try.ntmps101
  go_wp2
  go_ret
  exact ⟨rfl, rfl⟩

set_option maxHeartbeats 4000000 in
theorem kless_at (w : World) (kb hb len cap : Nat) (els : List El) (i j : Nat) (I J : Int) (hI : I = i) (hJ : J = j) (h : KKS w kb hb len cap els) (hi : i < len) (hj : j < len) (hl : len ≤ 1099511627776) :
    Calls Try.prog 102 #[.pointer (some ⟨kb, 0, none⟩), .int .i64 I, .int .i64 J] w fun e w' => e = .returned (.bool (lessE (at' els i) (at' els j))) ∧ ∃ n, w' = w.drewN n := by
  subst hI hJ
  have c0 := h.top.1
  obtain ⟨v, b, d0, d1, _, _, he⟩ := h.at hi
  obtain ⟨u, c, g0, g1, _, _, hf⟩ := h.at hj
  have i1 : (0 : Int) ≤ i := by omega
  have i2 : (i : Int) < len := by omega
  have j1 : (0 : Int) ≤ j := by omega
  have j2 : (j : Int) < len := by omega
  clear h
  cases hx : at' els i with
  | none =>
    rw [hx] at he
    obtain ⟨rfl, rfl⟩ := he
    clear hx hf
    go_enter Try.func102, Try.ntmps102
    go_wp2
    go_quiet (fail)
    go_wp2
    go_ret
    exact ⟨rfl, _, rfl⟩
  | some d =>
    rw [hx] at he
    obtain ⟨rfl, hd, A, rfl⟩ := he
    have hres : lessE (some b) (at' els j) = (FloatKind.f64.format.order b c == some .gt) := by
      cases hy : at' els j with
      | none =>
        rw [hy] at hf
        obtain ⟨rfl, rfl⟩ := hf
        rw [order_inf hd]
        rfl
      | some e =>
        rw [hy] at hf
        obtain ⟨rfl, he, _⟩ := hf
        rw [ord_gt hd he]
        rfl
    obtain ⟨g, hg⟩ : ∃ g : Bool, (FloatKind.f64.format.order b c == some .gt) = g := ⟨_, rfl⟩
    rw [hres, hg]
    clear hx hf hres
    have heq : ∀ (A : Value) (w : World), (binOp .eql 69 (.iface 71 A) .nilIface).run Try.prog w = .ok (.bool false) w := fun _ _ => by kernel_rfl
    go_enter Try.func102, Try.ntmps102
    go_wp2
    go_quiet (fail)
    go_wp2
    go_ret
    exact ⟨rfl, _, rfl⟩

end Go.Proofs.Ytncpdjlladlalaa
