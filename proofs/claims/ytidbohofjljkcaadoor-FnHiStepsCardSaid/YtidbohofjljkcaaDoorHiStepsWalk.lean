/- The law on a curve's steps, walked whole: it answers true whatever the input. Conditions: none. -/
import Derived.Test.YtidbohofjljkcaaDoorHilSteps
namespace Go.Proofs.YtidbohofjljkcaaDoor
open Go.RowKit Lox Hil
set_option linter.unusedVariables false

theorem walk_fnHiSteps (d o fr n : Int) (w0 : (Lit.int .i64 d).wf = true) (w1 : (Lit.int .i64 o).wf = true) (w2 : (Lit.int .i64 fr).wf = true) (w3 : (Lit.int .i64 n).wf = true) (w : World) :
    Calls Tryd.prog 5 #[.int .i64 d, .int .i64 o, .int .i64 fr, .int .i64 n] w fun e w' => e = .returned (.bool true) ∧ Below w.heap.size w w' := by
  by_cases h : Part d o fr n
  · obtain ⟨D, O, F, N, rfl, rfl, rfl, rfl, hd, h1, h2, h3, h4, h5⟩ := part_nat h
    exact (steps_yes D O F N w hd h1 h2 h3 h4 h5 h).mono fun e w' ⟨he, hm⟩ => ⟨he, hm.toBelow⟩
  · exact (steps_no d o fr n w h).mono fun e w' ⟨he, hm⟩ => ⟨he, hm.toBelow⟩
end Go.Proofs.YtidbohofjljkcaaDoor
