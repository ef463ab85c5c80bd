/- Which function a method of the k-d tree's doors is. Conditions: none. -/
import Derived.Test.YtmeooadgdagiiaaTbLess
namespace Go.Proofs.Ytmeooadgdagiiaa
open Go.RowKit Lox
set_option linter.unusedVariables false

/-- A window of the array, with its plane. -/
abbrev planeV (d : Int) (S : Value) : Value := .agg #[.int .i64 d, S]

theorem pmeth_swap (d : Int) (S : Value) (w : World) : (method 318 209 (planeV d S) "Swap").run Try.prog w = .ok (156, planeV d S) w := by kernel_rfl
theorem pmeth_less (d : Int) (S : Value) (w : World) : (method 318 209 (planeV d S) "Less").run Try.prog w = .ok (155, planeV d S) w := by kernel_rfl
theorem pmeth_len (d : Int) (S : Value) (w : World) : (method 318 209 (planeV d S) "Len").run Try.prog w = .ok (154, planeV d S) w := by kernel_rfl

set_option maxHeartbeats 1000000 in
theorem plen_at (w : World) (d : Int) (A : Option Addr) (n c : Nat) :
    Calls Try.prog 154 #[.agg #[.int .i64 d, .slice A n c]] w fun e w' => e = .returned (.int .i64 n) ∧ Mod (fun _ => False) w w' := by
  go_enter Try.func154, Try.ntmps154
  go_wp2
  go_ret
  exact ⟨rfl, (Mod.refl _ w).alloc _⟩
end Go.Proofs.Ytmeooadgdagiiaa
