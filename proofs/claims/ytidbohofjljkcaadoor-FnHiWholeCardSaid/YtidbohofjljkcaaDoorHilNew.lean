/- The walks of the Hilbert curves' makers, and of what is deferred in the walk along a curve. Conditions: orders from 1 to 31, 20, 15. -/
import Derived.Test.YtidbohofjljkcaaDoorHilC3
import Derived.Test.YtidbohofjljkcaaDoorHilC4
import Derived.Test.YtidbohofjljkcaaDoorEach
import Derived.Deep.RegionHeld3
import Derived.Deep.AppendLies
namespace Go.Proofs.YtidbohofjljkcaaDoor
open Go.RowKit Lox Hil
set_option linter.unusedVariables false

theorem new_post {R : Ending → World → Prop} {fn : Func} {a : Act} {w : World} {v : Value} (hr : (results fn a.tmps).run Tryd.prog w = .ok v w) (hd : a.defers = []) (h : R (.returned v) w) : bodyPost Tryd.prog fn R .ret a w := bodyPost_ret_by hr hd h

set_option maxHeartbeats 400000 in
theorem new2 (o : Nat) (w : World) (h1 : 1 ≤ o) (h2 : o ≤ 31) :
    Calls Tryd.prog 13 #[.int .i64 o] w fun e w' => e = .returned (.tuple #[.agg #[.int .i64 o], .nilIface]) ∧ Mod (fun _ => False) w w' := by
  go_enter Tryd.func13, Tryd.ntmps13
  go_wp2
  exact bodyPost_ret (v := .tuple #[.agg #[.int .i64 o], .nilIface]) (by simp [results, Tryd.results13, go_sem]) rfl ⟨rfl, ((((Mod.refl _ _).alloc _).alloc _))⟩

set_option maxHeartbeats 400000 in
theorem new3 (o : Nat) (w : World) (h1 : 1 ≤ o) (h2 : o ≤ 20) :
    Calls Tryd.prog 15 #[.int .i64 o] w fun e w' => e = .returned (.tuple #[.agg #[.int .i64 o], .nilIface]) ∧ Mod (fun _ => False) w w' := by
  go_enter Tryd.func15, Tryd.ntmps15
  go_wp2
  exact bodyPost_ret (v := .tuple #[.agg #[.int .i64 o], .nilIface]) (by simp [results, Tryd.results15, go_sem]) rfl ⟨rfl, ((((Mod.refl _ _).alloc _).alloc _))⟩

set_option maxHeartbeats 400000 in
theorem new4 (o : Nat) (w : World) (h1 : 1 ≤ o) (h2 : o ≤ 15) :
    Calls Tryd.prog 17 #[.int .i64 o] w fun e w' => e = .returned (.tuple #[.agg #[.int .i64 o], .nilIface]) ∧ Mod (fun _ => False) w w' := by
  go_enter Tryd.func17, Tryd.ntmps17
  go_wp2
  exact bodyPost_ret (v := .tuple #[.agg #[.int .i64 o], .nilIface]) (by simp [results, Tryd.results17, go_sem]) rfl ⟨rfl, ((((Mod.refl _ _).alloc _).alloc _))⟩

theorem catch_idle (p q : Addr) (w : World) :
    CallsD Tryd.prog 12 #[.pointer (some p), .pointer (some q)] .returning w fun e u' w' => e = .returned (.tuple #[]) ∧ u' = .returning ∧ w' = w := by
  refine callsD_of_wpS Tryd.func12 rfl fun c₀ cs hu => ?_
  apply wpS_seq
  apply wpS_region
  simp [wpOpsS, go_sem, recoverD, hu, Tryd.ntmps12, Exit.thenS]
  refine wpS_cond (t := false) (by simp [Act.eval, Array.replicate]) ?_
  simp only [Bool.false_eq_true, if_false]
  refine wpS_of_wp (wp_skip ?_)
  cases c₀
  simp_all [bodyPostS, results, Tryd.results12]
end Go.Proofs.YtidbohofjljkcaaDoor
