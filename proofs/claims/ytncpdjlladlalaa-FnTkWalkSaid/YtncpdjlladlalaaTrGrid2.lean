/- Grid, of one point, answers the same in every world that holds the point; where it says yes the point is of the size asked for, and each of its numbers is one. Conditions: none. -/
import Derived.Test.YtncpdjlladlalaaTrGrid
namespace Go.Proofs.Ytncpdjlladlalaa
open Go.RowKit Lox
set_option linter.unusedVariables false

/-- A number without its broken part. -/
noncomputable def TR (x : Nat) : Nat := by
  classical
  exact if h : Num x then Classical.choose (run_trunc x h) else 0

set_option maxHeartbeats 400000 in
theorem trunc_tr (x : Nat) (w : World) (hx : Num x) :
    Calls Try.prog 26 #[.float .f64 x] w fun e w' => e = .returned (.float .f64 (TR x)) ∧ w = w' := by
  have hy : ∀ w : World, (callFunc 53 #[.float .f64 x]).run Try.prog w = .ok (.value (.float .f64 (TR x))) w := by
    unfold TR
    rw [dif_pos hx]
    exact Classical.choose_spec (run_trunc x hx)
  generalize TR x = y at hy ⊢
  go_enter Try.func26, Try.ntmps26
  go_wp2
  go_ret
  exact ⟨rfl, rfl⟩

def g1B (most x : Nat) : Bool := FloatKind.f64.format.order x (Op.negFloat .f64 most) == some .gt || FloatKind.f64.format.order x (Op.negFloat .f64 most) == some .eq
def g2B (most x : Nat) : Bool := FloatKind.f64.format.order x most == some .lt || FloatKind.f64.format.order x most == some .eq
noncomputable def g3B (x : Nat) : Bool := FloatKind.f64.format.order x (TR x) == some .eq
noncomputable def okB (most x : Nat) : Bool := g1B most x && g2B most x && g3B x
noncomputable def gridB (p : Pt) (dims : Int) (most : Nat) : Bool := decide ((p.n : Int) = dims) && p.xs.all (okB most) && decide (0 < dims)

theorem gridB_yes {p : Pt} {dims : Int} {most : Nat} (h : gridB p dims most = true) : (p.n : Int) = dims ∧ (∀ x ∈ p.xs, Num x) ∧ 0 < dims := by
  unfold gridB at h
  simp only [Bool.and_eq_true, decide_eq_true_eq, List.all_eq_true] at h
  refine ⟨h.1.1, fun x hx => ?_, h.2⟩
  have := h.1.2 x hx
  unfold okB at this
  simp only [Bool.and_eq_true] at this
  have h3 := this.2
  unfold g3B at h3
  exact Num.of_order (eq_of_beq h3)

set_option maxHeartbeats 4000000 in
theorem grid_one (O : Option Addr) (c : Nat) (p : Pt) (dims : Int) (most : Nat) (w : World) (ho : Sl w O 1 1 [p.v]) (hp : p.Ok w) :
    Calls Try.prog 10 #[.slice O 1 c, .int .i64 dims, .float .f64 most] w fun e w' => e = .returned (.bool (gridB p dims most)) ∧ w = w' := by
  have hneg : ∀ (x : Nat) (w : World), (Op.unary .neg (.float .f64 x)).run Try.prog w = .ok (.float .f64 (Op.negFloat .f64 x)) w := fun _ _ => rfl
  obtain ⟨bo, oo, v, eo, e2, co⟩ := ho.at1 (k := 0) (by omega)
  cases e2
  subst eo
  obtain ⟨A, q, c', xs⟩ := p
  have hpn : q ≤ 9223372036854775807 := hp.2
  have hlx : xs.length = q := hp.len
  have HK : Hid (Pt.Ok w ⟨A, q, c', xs⟩) := hp
  have HLX := Lib.hid hlx
  simp only [Pt.v, Nat.add_zero] at co
  clear hp hlx ho
  obtain ⟨B, hB⟩ : ∃ B, B = gridB ⟨A, q, c', xs⟩ dims most := ⟨_, rfl⟩
  rw [← hB]
  have HB := Lib.hid hB
  clear hB
  go_enter Try.func10, Try.ntmps10
  go_wp2
  go_loop [13] (fun i => (i = .int .i64 0) ∨ (i = .int .i64 1 ∧ Hid ((q : Int) = dims ∧ xs.all (okB most) = true))) (fun i => 1 - (intOf i).toNat)
  case atStart => exact .inl rfl
  case round =>
    rcases hrel with rfl | ⟨rfl, HR⟩
    · by_cases hdim : (q : Int) = dims
      · subst hdim
        go_wp2
        go_loop [23] (fun i => ∃ j : Nat, j ≤ q ∧ i = .int .i64 j ∧ Hid ((xs.take j).all (okB most) = true)) (fun i => q - (intOf i).toNat)
        case atStart => exact ⟨0, Nat.zero_le _, rfl, by show _ = _; simp⟩
        case round =>
          obtain ⟨j, hj, rfl, HDJ⟩ := hrel
          by_cases hlj : j < q
          · obtain ⟨b2, o2, e4, c2⟩ := HK.out.cell hlj
            replace e4 : A = some ⟨b2, o2, none⟩ := e4
            replace c2 : w.cell? ⟨b2, o2 + j, none⟩ = some (.float .f64 (xs.getD j 0)) := c2
            have hjl : j < xs.length := by rw [HLX.out]; exact hlj
            have HTJ : Hid (xs.take (j + 1) = xs.take j ++ [xs.getD j 0] ∧ xs.getD j 0 ∈ xs) := by
              refine ⟨?_, ?_⟩
              · rw [List.take_succ_eq_append_getElem hjl]; simp [hjl]
              · simp [hjl]
            obtain ⟨x, ex⟩ : ∃ x, x = xs.getD j 0 := ⟨_, rfl⟩
            rw [← ex] at c2 HTJ
            clear ex hjl
            subst e4
            have hno : okB most x = false → B = false := fun h => by
              rw [HB.out]
              unfold gridB
              have : xs.all (okB most) = false := by
                rw [List.all_eq_false]
                exact ⟨x, HTJ.out.2, by simp [h]⟩
              simp [this]
            have HNO := Lib.hid hno
            clear hno
            have h1 : (FloatKind.f64.format.order x (Op.negFloat .f64 most) == some .gt || FloatKind.f64.format.order x (Op.negFloat .f64 most) == some .eq) = g1B most x := rfl
            have h2 : (FloatKind.f64.format.order x most == some .lt || FloatKind.f64.format.order x most == some .eq) = g2B most x := rfl
            by_cases hnx : Num x
            · have HN := Lib.hid hnx
              clear hnx
              have h3 : (FloatKind.f64.format.order x (TR x) == some .eq) = g3B x := rfl
              have h3n : (FloatKind.f64.format.order x (TR x) != some .eq) = !(g3B x) := rfl
              have hOK : okB most x = (g1B most x && g2B most x && g3B x) := rfl
              have HO := Lib.hid hOK
              clear hOK
              generalize g1B most x = g1 at *
              generalize g2B most x = g2 at *
              generalize g3B x = g3 at *
              cases g1 <;> cases g2 <;> cases g3
              all_goals go_wp2_with (go_at_call 26; refine (trunc_tr x _ HN.out).mono ?_; rintro _ _ ⟨rfl, rfl⟩)
              all_goals first
                | (go_ret; exact ⟨by rw [HNO.out (by rw [HO.out]; rfl)]; rfl, rfl⟩)
                | (go_round
                   case rel =>
                     refine ⟨j + 1, by omega, by go_num, ?_⟩
                     show _ = _
                     rw [HTJ.out.1, List.all_append, HDJ.out]
                     simp [HO.out]
                   case measure => simp [intOf]; omega)
            · have hnone : ∀ y, FloatKind.f64.format.order x y = none := fun y => by
                cases hh : FloatKind.f64.format.order x y with
                | none => rfl
                | some z => exact absurd (Num.of_order hh) hnx
              have hf : okB most x = false := by unfold okB g1B; simp [hnone]
              have HF := Lib.hid hf
              clear hf h1 h2
              go_wp2
              go_ret
              exact ⟨by rw [HNO.out HF.out]; rfl, rfl⟩
          · obtain rfl : j = q := by omega
            go_wp2_with fail
            go_round
            case rel =>
              refine .inr ⟨by first | trivial | rfl | go_num, by first | trivial | rfl, ?_⟩
              have := HDJ.out
              rw [List.take_of_length_le (by rw [HLX.out]; exact Nat.le_refl _)] at this
              exact this
            case measure => simp [intOf]
      · have hne : ((q : Int) != dims) = true := by simp [hdim]
        have hne2 : ((q : Int) == dims) = false := by simp [hdim]
        have hBf : B = false := by rw [HB.out]; unfold gridB; simp [hdim]
        go_wp2
        go_ret
        exact ⟨by first | rfl | (rw [hBf]; rfl), rfl⟩
    · by_cases h0 : 0 < dims
      · have hBt : B = true := by rw [HB.out]; unfold gridB; simp [HR.out.1, HR.out.2, h0]
        go_wp2
        go_ret
        exact ⟨by first | rfl | (rw [hBt]; rfl), rfl⟩
      · have hd0 : decide (0 < dims) = false := by simp [h0]
        have hBf : B = false := by rw [HB.out]; unfold gridB; simp [h0]
        go_wp2
        go_ret
        exact ⟨by first | rfl | (rw [hBf]; rfl), rfl⟩
end Go.Proofs.Ytncpdjlladlalaa
