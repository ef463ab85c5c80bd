/- The law FnTkSteps answers true for every input, and its arguments read as before. Conditions: none. -/
import Derived.Test.YtmeooadgdagiiaaMs19
import Derived.Test.YtmeooadgdagiiaaRows
import Derived.WalkKit
import Derived.ProofKit
import Derived.OpenShut

namespace Go.Proofs.Ytmeooadgdagiiaa.fnTkSteps
open Go.ChangeShapes Go.WideShapes Go.ChangeAt Go.RowKit Lox
set_option linter.unusedVariables false

theorem own : ownKnob Try.prog.godebug = none := by kernel_rfl
theorem laidOut : laidOutB Try.prog = true := by kernel_rfl

set_option maxRecDepth 100000 in
theorem lifted (os : Os) (started : os.Started) (H : Type) (enc : TypeId × Value → H) :
    ReturnsInHanded {} Try.checked os 7 .any (Rows.fnTkStepsSpec.pre6 enc Try.prog Try.f7 Rows.fnTkStepsRow.domain false) (Rows.fnTkStepsSpec.post enc Try.prog Try.f7 false true false false) := by
  refine returnsInHanded_of_change (C := Try.checked) own started (by kernel_rfl) Try.func7
    (ChangeSpec.witness6 (enc := enc) (C := Try.checked) false ⟨#[], #[.slice none 0 0, .slice none 0 0, .slice none 0 0, .int .i64 0], []⟩ 8 (by kernel_rfl) (by kernel_rfl) (by kernel_rfl) (by kernel_rfl)) ?_
  intro W base args ds gs before hval0 hW _ _
  have hval : ∀ (j : Nat) t v, Try.f7.params[j]? = some t → args[j]? = some v → Value.okWide Try.prog W .any base t v := hval0
  have hW' := hW
  obtain ⟨p, q, hA0, hV, rfl, hfz, hnd⟩ := hW
  have hA : DataW.TrodAll enc Try.prog W 0 (fun _ => true) true Try.f7.params.toList args.toList ds p := hA0
  have hlt : ∀ x ∈ p, x.block < W.heap.size := hA.lt
  rw [Try.params7] at hA hval
  obtain ⟨v0, vs0, d0, ds0, p0, q0, hargs, rfl, rfl, h0, r0⟩ := trodAll_cons hA
  obtain ⟨v1, vs1, d1, ds1, p1, q1, rfl, rfl, rfl, h1, r1⟩ := trodAll_cons r0
  obtain ⟨v2, vs2, d2, ds2, p2, q2, rfl, rfl, rfl, h2, r2⟩ := trodAll_cons r1
  obtain ⟨v3, vs3, d3, ds3, p3, q3, rfl, rfl, rfl, h3, r3⟩ := trodAll_cons r2
  obtain ⟨rfl, rfl, rfl⟩ := trodAll_nil r3
  obtain rfl : args = #[v0, v1, v2, v3] := by cases args; simp_all
  obtain ⟨rfl, rfl⟩ := trodVars_none hV
  clear hA0 hval0
  simp only [List.append_nil] at hW'
  have back0 : ∀ W', Below W.heap.size W W' → DataW.Trod enc Try.prog W' 0 (fun b => decide (b < W.heap.size)) true 22 v0 d0 p0 := fun W' hn => Below.trod laidOut (by kernel_rfl) (of_decide_eq_true (by kernel_rfl)) h0 hn (fun x hx => hlt x (by simp [hx]))
  have back1 : ∀ W', Below W.heap.size W W' → DataW.Trod enc Try.prog W' 0 (fun b => decide (b < W.heap.size)) true 23 v1 d1 p1 := fun W' hn => Below.trod laidOut (by kernel_rfl) (of_decide_eq_true (by kernel_rfl)) h1 hn (fun x hx => hlt x (by simp [hx]))
  have back2 : ∀ W', Below W.heap.size W W' → DataW.Trod enc Try.prog W' 0 (fun b => decide (b < W.heap.size)) true 26 v2 d2 p2 := fun W' hn => Below.trod laidOut (by kernel_rfl) (of_decide_eq_true (by kernel_rfl)) h2 hn (fun x hx => hlt x (by simp [hx]))
  have back3 : ∀ W', Below W.heap.size W W' → DataW.Trod enc Try.prog W' 0 (fun b => decide (b < W.heap.size)) true 3 v3 d3 p3 := fun W' hn => Below.trod laidOut (by kernel_rfl) (of_decide_eq_true (by kernel_rfl)) h3 hn (fun x hx => hlt x (by simp [hx]))
  obtain ⟨T0, k0, c0, rfl⟩ := okWide_slice Try.underlying22 (hval 0 22 v0 rfl rfl)
  obtain ⟨fuel0, h0'⟩ := h0
  obtain ⟨x, e0, hx⟩ := read_points Try.underlying22 (by kernel_rfl) Try.underlying26 Try.underlying27 (by kernel_rfl) h0'
  obtain ⟨T, k, c, rfl⟩ := okWide_slice Try.underlying23 (hval 1 23 v1 rfl rfl)
  obtain ⟨fuel1, h1'⟩ := h1
  obtain ⟨T', k', c', pk, e1, hs1, hkc, hc, hwf, hNil⟩ := read_ints Try.underlying23 Try.underlying3 (by kernel_rfl) h1'
  simp [Value.cells] at e1
  obtain ⟨rfl, rfl, rfl⟩ := e1
  obtain ⟨T3, k3, c3, rfl⟩ := okWide_slice Try.underlying26 (hval 2 26 v2 rfl rfl)
  obtain ⟨fuel3, h3'⟩ := h2
  obtain ⟨T3', k3', c3', qx, e3, hs3, hkc3, hc3, hwf3⟩ := read_floats Try.underlying26 Try.underlying27 (by kernel_rfl) h3'
  simp [Value.cells] at e3
  obtain ⟨rfl, rfl, rfl⟩ := e3
  obtain ⟨n, rfl, rfl, rfl, w1⟩ := open_int Try.underlying3 (hval 3 3 v3 rfl rfl) h3
  have e0' : Value.slice T0 k0 c0 = x.v := by simpa [Value.cells] using e0
  have hcall := K.fnTkSteps_at x T T3 c k c3 k3 n pk qx W hx hs1 hNil (by omega) (fun q hq => wf_le (hwf q hq)) hs3 (by omega)
  rw [← e0'] at hcall
  refine hcall.mono fun e W' ⟨he, hm⟩ => ?_
  subst he
  exact ⟨_, rfl, ⟨_, _, _, [], (p0 ++ (p1 ++ (p2 ++ ([] ++ [])))), [], hW', (trodAll_cons_mk (shut_bool Try.underlying4 _) trodAll_mk0), (trodAll_cons_mk (back0 _ hm.toBelow) (trodAll_cons_mk (back1 _ hm.toBelow) (trodAll_cons_mk (back2 _ hm.toBelow) (trodAll_cons_mk (back3 _ hm.toBelow) trodAll_mk0)))), rfl, hm.toBelow.frame _, fun h => by cases h⟩⟩

theorem proved : Rows.FnTkStepsSaid :=
  OpenClaim.holds_of_wide 7 Try.f7 rfl rfl rfl rfl rfl rfl rfl ⟨rfl, rfl, rfl, rfl, rfl⟩ rfl rfl rfl rfl rfl (by kernel_rfl) Try.func7 (by kernel_rfl)
    (of_decide_eq_true (by kernel_rfl)) (by unfold Func.isWrapper; first | (rw [if_pos (by decide +kernel)]; kernel_rfl) | (rw [if_neg (by decide +kernel)]; exact ⟨rfl, rfl⟩))
    (fun os started H enc _ => lifted os started H enc)
#print axioms proved
end Go.Proofs.Ytmeooadgdagiiaa.fnTkSteps
