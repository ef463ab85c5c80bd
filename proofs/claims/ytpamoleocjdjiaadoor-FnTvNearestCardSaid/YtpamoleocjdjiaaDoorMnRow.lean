/- The law FnTvNearest answers true for every input, and its arguments read as before. Conditions: none but that the program's text lays the package's error. -/
import Derived.Test.YtpamoleocjdjiaaDoorMn2
import Derived.Test.YtpamoleocjdjiaaDoorRows
import Derived.Test.YtpamoleocjdjiaaDoorTie
import Derived.Test.YtpamoleocjdjiaaDoorCards
import Derived.WalkKit
import Derived.ProofKit
import Derived.OpenShut
import Derived.LaidMore
import Derived.SevenTiedAt

namespace Go.Proofs.YtpamoleocjdjiaaDoor.fnTvNearest
open Go.ChangeShapes Go.WideShapes Go.ChangeAt Go.RowKit Lox
set_option linter.unusedVariables false

theorem own : ownKnob Tryd.prog.godebug = none := by kernel_rfl
theorem laidOut : laidOutB Tryd.prog = true := by kernel_rfl

theorem door_met (os : Os) (args : Array Value) : laidMetH Tryd.prog Rows.fnTvNearestRow.laid ((World.doorLaid Tryd.prog 400 os).forCall (fun _ _ => 0) ⟨#[], args, []⟩).memory :=
  laidMetH_of_parts3 (fuel := 8) (laidMet_of_run' 8 (by kernel_rfl) (by kernel_rfl)) (by kernel_rfl) (by kernel_rfl)

set_option maxRecDepth 100000 in
theorem lifted (os : Os) (started : os.Started) (H : Type) (enc : TypeId × Value → H) :
    ReturnsInHanded {} Tryd.checked os 4 .any (fun w args => (Rows.fnTvNearestSpec.pre enc Tryd.prog Tryd.f4 [] false w args ∧ laidMetH Tryd.prog Rows.fnTvNearestRow.laid w) ∧ sizedMet enc Tryd.prog Tryd.f4 (OpenSpec.ofChange Rows.fnTvNearestSpec) false w args)
      (Rows.fnTvNearestSpec.post enc Tryd.prog Tryd.f4 false true false false) := by
  refine returnsInHanded_of_change_and (C := Tryd.checked) (X := fun w _ => laidMetH Tryd.prog Rows.fnTvNearestRow.laid w) (fun _ _ _ hh h => h.of_heap hh) own started (by kernel_rfl) Tryd.func4
    (ChangeSpec.witness_shaped (enc := enc) (C := Tryd.checked) (os := os) (X := fun w _ => laidMetH Tryd.prog Rows.fnTvNearestRow.laid w) false (World.doorLaid Tryd.prog 400 os) #[.slice none 0 0, .int .u64 0, .int .u64 0, .slice none 0 0] 8 rfl (World.shaped_of_RefB (by kernel_rfl) (by kernel_rfl)) (by kernel_rfl) (by kernel_rfl) (by kernel_rfl) (door_met os _)) ?_
  intro W base args ds gs before hval0 hW _ _ hL _
  have hval : ∀ (j : Nat) t v, Tryd.f4.params[j]? = some t → args[j]? = some v → Value.okWide Tryd.prog W .any base t v := hval0
  have hW' := hW
  obtain ⟨p, q, hA0, hV, rfl, hfz, hnd⟩ := hW
  have hA : DataW.TrodAll enc Tryd.prog W 0 (fun _ => true) true Tryd.f4.params.toList args.toList ds p := hA0
  have hlt : ∀ x ∈ p, x.block < W.heap.size := hA.lt
  rw [Tryd.params4] at hA hval
  obtain ⟨v0, vs0, d0, ds0, p0, q0, hargs, rfl, rfl, h0, r0⟩ := trodAll_cons hA
  obtain ⟨v1, vs1, d1, ds1, p1, q1, rfl, rfl, rfl, h1, r1⟩ := trodAll_cons r0
  obtain ⟨v2, vs2, d2, ds2, p2, q2, rfl, rfl, rfl, h2, r2⟩ := trodAll_cons r1
  obtain ⟨v3, vs3, d3, ds3, p3, q3, rfl, rfl, rfl, h3, r3⟩ := trodAll_cons r2
  obtain ⟨rfl, rfl, rfl⟩ := trodAll_nil r3
  obtain rfl : args = #[v0, v1, v2, v3] := by cases args; simp_all
  obtain ⟨rfl, rfl⟩ := trodVars_none hV
  clear hA0 hval0
  simp only [List.append_nil] at hW'
  have back0 : ∀ W', Below W.heap.size W W' → DataW.Trod enc Tryd.prog W' 0 (fun b => decide (b < W.heap.size)) true 22 v0 d0 p0 := fun W' hn => Below.trod laidOut (by kernel_rfl) (of_decide_eq_true (by kernel_rfl)) h0 hn (fun x hx => hlt x (by simp [hx]))
  have back1 : ∀ W', Below W.heap.size W W' → DataW.Trod enc Tryd.prog W' 0 (fun b => decide (b < W.heap.size)) true 23 v1 d1 p1 := fun W' hn => Below.trod laidOut (by kernel_rfl) (of_decide_eq_true (by kernel_rfl)) h1 hn (fun x hx => hlt x (by simp [hx]))
  have back2 : ∀ W', Below W.heap.size W W' → DataW.Trod enc Tryd.prog W' 0 (fun b => decide (b < W.heap.size)) true 23 v2 d2 p2 := fun W' hn => Below.trod laidOut (by kernel_rfl) (of_decide_eq_true (by kernel_rfl)) h2 hn (fun x hx => hlt x (by simp [hx]))
  have back3 : ∀ W', Below W.heap.size W W' → DataW.Trod enc Tryd.prog W' 0 (fun b => decide (b < W.heap.size)) true 26 v3 d3 p3 := fun W' hn => Below.trod laidOut (by kernel_rfl) (of_decide_eq_true (by kernel_rfl)) h3 hn (fun x hx => hlt x (by simp [hx]))
  obtain ⟨T0, k0, c0, rfl⟩ := okWide_slice Tryd.underlying22 (hval 0 22 v0 rfl rfl)
  obtain ⟨fuel0, h0'⟩ := h0
  obtain ⟨x, e0, hx⟩ := read_points Tryd.underlying22 (by kernel_rfl) Tryd.underlying26 Tryd.underlying27 (by kernel_rfl) h0'
  obtain ⟨a1, rfl, rfl, rfl, w1⟩ := open_int Tryd.underlying23 (hval 1 23 v1 rfl rfl) h1
  obtain ⟨a2, rfl, rfl, rfl, w2⟩ := open_int Tryd.underlying23 (hval 2 23 v2 rfl rfl) h2
  obtain ⟨T3, k3, c3, rfl⟩ := okWide_slice Tryd.underlying26 (hval 3 26 v3 rfl rfl)
  obtain ⟨fuel3, h3'⟩ := h3
  obtain ⟨T3', k3', c3', qx, e3, hs3, hkc3, hc3, hwf3⟩ := read_floats Tryd.underlying26 Tryd.underlying27 (by kernel_rfl) h3'
  simp [Value.cells] at e3
  obtain ⟨rfl, rfl, rfl⟩ := e3
  have e0' : Value.slice T0 k0 c0 = x.v := by simpa [Value.cells] using e0
  obtain ⟨one, rfl, h1'⟩ := wf_u64 w1
  obtain ⟨two, rfl, h2'⟩ := wf_u64 w2
  have hcall := fnTvNearest_at x T3 one two k3 c3 qx W hx h1' h2' hs3
  rw [← e0'] at hcall
  refine hcall.mono fun e W' ⟨he, hm⟩ => ?_
  subst he
  exact ⟨_, rfl, ⟨_, _, _, [], (p0 ++ ([] ++ ([] ++ (p3 ++ [])))), [], hW', (trodAll_cons_mk (shut_bool Tryd.underlying4 _) trodAll_mk0), (trodAll_cons_mk (back0 _ hm.toBelow) (trodAll_cons_mk (back1 _ hm.toBelow) (trodAll_cons_mk (back2 _ hm.toBelow) (trodAll_cons_mk (back3 _ hm.toBelow) trodAll_mk0)))), rfl, hm.toBelow.frame _, fun h => by cases h⟩⟩

theorem over : Rows.FnTvNearestSaid :=
  OpenClaim.holds_of_wide 4 Tryd.f4 rfl rfl rfl rfl rfl rfl rfl ⟨rfl, rfl, rfl, rfl, rfl⟩ rfl rfl rfl rfl rfl (by kernel_rfl) Tryd.func4 (by kernel_rfl)
    (of_decide_eq_true (by kernel_rfl)) (by unfold Func.isWrapper; first | (rw [if_pos (by decide +kernel)]; kernel_rfl) | (rw [if_neg (by decide +kernel)]; exact ⟨rfl, rfl⟩))
    (fun os started H enc _ => lifted os started H enc)

theorem proved : Rows.FnTvNearestCardSaid :=
  Claim7.holds_tied_plain_at .later [] [.sentinel] true _ true
    over (fun _ h => by cases h) (by kernel_rfl) (fun _ h => by cases h) fnTvNearest_row_tie rfl ⟨rfl, rfl⟩ (by kernel_rfl) rfl
    (fun f fn hf hfn => by
      obtain rfl : f = 4 := Option.some.inj ((show Tryd.prog.funcNamed "pub-loxodrome/laws.FnTvNearest" = some 4 by kernel_rfl).symm.trans hf) |>.symm
      obtain rfl : fn = Tryd.f4 := (Option.some.inj (Tryd.func4.symm.trans hfn)).symm
      exact ⟨by kernel_rfl, fun j t ht => by
        rw [Tryd.params4] at ht
        have hm : t ∈ [22, 23, 23, 26] := by simpa using Array.mem_of_getElem? ht
        have hall : ([22, 23, 23, 26].all fun u => !Tryd.prog.wantsStandIn u) = true := by kernel_rfl
        exact (show Tryd.prog.wantsStandIn t = false by simpa using List.all_eq_true.1 hall t hm)⟩)
    (by kernel_rfl)
#print axioms proved
end Go.Proofs.YtpamoleocjdjiaaDoor.fnTvNearest
