/- The walks of Trunc, Grid, SamePoint, floats. Conditions: as each says. -/
import Derived.Test.YtncpdjlladlalaaRows
import Derived.Test.YtncpdjlladlalaaFlt
namespace Go.Proofs.Ytncpdjlladlalaa
open Go.RowKit Lox
set_option linter.unusedVariables false

theorem run_trunc (x : Nat) (hx : Num x) : ∃ y, ∀ w : World, (callFunc 53 #[.float .f64 x]).run Try.prog w = .ok (.value (.float .f64 y)) w := by
  have key : ∀ d, FloatKind.f64.decode x = d → d.isNaN = false → (Extern.MathFloor.toIntegral "math.archTrunc" .zero #[.float .f64 x]) = pure (.float .f64 (FloatKind.f64.encode (d.integral .zero))) := by
    intro d hd hn
    delta Extern.MathFloor.toIntegral
    conv => lhs; whnf
    rw [hd]
    cases d with
    | nan s t => simp [Ieee.Datum.isNaN] at hn
    | number s m i => rfl
    | infinity s => rfl
  refine ⟨FloatKind.f64.encode ((FloatKind.f64.decode x).integral .zero), fun w => ?_⟩
  rw [run_callFunc_extern Try.func53 (by kernel_rfl) (by kernel_rfl) (by kernel_rfl) (e := Extern.MathFloor.toIntegral "math.archTrunc" .zero) (by kernel_rfl), key _ rfl hx]
  rfl

set_option maxHeartbeats 400000 in
theorem trunc_any (x : Nat) (w : World) (hx : Num x) :
    Calls Try.prog 26 #[.float .f64 x] w fun e w' => (∃ y, e = .returned (.float .f64 y)) ∧ w = w' := by
  obtain ⟨y, hy⟩ := run_trunc x hx
  go_enter Try.func26, Try.ntmps26
  go_wp2
  go_ret
  exact ⟨⟨y, rfl⟩, rfl⟩

set_option maxHeartbeats 1000000 in
theorem same_yes (A B : Option Addr) (n c c' : Nat) (xs : List Nat) (w : World) (ha : Sl w A n 1 (flts xs)) (hb : Sl w B n 1 (flts xs)) (hn : n ≤ 9223372036854775807) (hx : ∀ x ∈ xs, Num x) :
    Calls Try.prog 12 #[.slice A n c, .slice B n c'] w fun e w' => e = .returned (.bool true) ∧ w = w' := by
  have hl : xs.length = n := by have := ha.1; simpa [flts] using this
  go_enter Try.func12, Try.ntmps12
  go_wp2
  go_loop [14] (fun i => ∃ k : Nat, k ≤ n ∧ i = .int .i64 k) (fun i => n - (intOf i).toNat)
  case atStart => exact ⟨0, Nat.zero_le _, rfl⟩
  case round =>
    obtain ⟨k, hk, rfl⟩ := hrel
    by_cases hlt : k < n
    · obtain ⟨b, o, v, e1, e2, c1⟩ := ha.at1 hlt
      obtain ⟨b', o', v', e3, e4, c2⟩ := hb.at1 hlt
      rw [e2] at e4
      cases e4
      have hk2 : k < xs.length := by omega
      rw [flts_getD hk2] at e2
      cases e2
      have hxx : FloatKind.f64.format.order (xs.getD k 0) (xs.getD k 0) = some .eq := (hx _ (by simp [hk2])).self
      obtain ⟨x, ex⟩ : ∃ x, x = xs.getD k 0 := ⟨_, rfl⟩
      rw [← ex] at c1 c2 hxx
      clear ex hk2 ha hb hx
      subst e1 e3
      go_wp2
      go_round
      case rel => exact ⟨k + 1, by omega, by go_num⟩
      case measure => simp [intOf]; omega
    · obtain rfl : k = n := by omega
      go_wp2
      go_ret
      exact ⟨rfl, rfl⟩

/-- What Grid tells of points: where it says yes, each is of the size asked for, and each of its numbers is one. -/
def GridTold (pts : List Pt) (dims : Int) (w : World) (e : Ending) (w' : World) : Prop :=
  w = w' ∧ ∃ b, e = .returned (.bool b) ∧ (b = true → (∀ p ∈ pts, (p.n : Int) = dims ∧ ∀ x ∈ p.xs, Num x) ∧ 0 < dims)

theorem grid_no {pts : List Pt} {dims : Int} {w : World} : GridTold pts dims w (.returned (.bool false)) w := ⟨rfl, false, rfl, fun h => by cases h⟩

set_option maxHeartbeats 2000000 in
theorem grid_any (O : Option Addr) (m c : Nat) (pts : List Pt) (dims : Int) (most : Nat) (w : World) (ho : Sl w O m 1 (pts.map Pt.v)) (hm : m ≤ 9223372036854775807) (hp : ∀ p ∈ pts, p.Ok w) :
    Calls Try.prog 10 #[.slice O m c, .int .i64 dims, .float .f64 most] w (GridTold pts dims w) := by
  have hl : pts.length = m := by have := ho.1; simpa using this
  have hneg : ∀ (x : Nat) (w : World), (Op.unary .neg (.float .f64 x)).run Try.prog w = .ok (.float .f64 (Op.negFloat .f64 x)) w := fun _ _ => rfl
  go_enter Try.func10, Try.ntmps10
  go_wp2
  go_loop [13] (fun i => ∃ k : Nat, k ≤ m ∧ i = .int .i64 k ∧ ∀ p ∈ pts.take k, (p.n : Int) = dims ∧ ∀ x ∈ p.xs, Num x) (fun i => m - (intOf i).toNat)
  case atStart => exact ⟨0, Nat.zero_le _, rfl, by simp⟩
  case round =>
    obtain ⟨k, hk, rfl, hdone⟩ := hrel
    have HD := Lib.hid hdone
    clear hdone
    by_cases hlt : k < m
    · obtain ⟨b, o, v, e1, e2, c1⟩ := ho.at1 hlt
      have hk2 : k < pts.length := by omega
      have e3 : (pts.map Pt.v)[k]? = some (pts[k]).v := by simp [hk2]
      rw [e3] at e2
      cases e2
      have hpk : (pts[k]).Ok w := hp _ (List.getElem_mem hk2)
      obtain ⟨p, ep⟩ : ∃ p, p = pts[k] := ⟨_, rfl⟩
      rw [← ep] at c1 hpk e3
      have HTK : Hid (pts.take (k + 1) = pts.take k ++ [p]) := by show _ = _; rw [List.take_succ_eq_append_getElem hk2, ep]
      clear ep e3 hk2
      obtain ⟨A, q, c', xs⟩ := p
      have hpn : q ≤ 9223372036854775807 := hpk.2
      have hlx : xs.length = q := hpk.len
      have HK : Hid (Pt.Ok w ⟨A, q, c', xs⟩) := hpk
      have HLX := Lib.hid hlx
      replace c1 : w.cell? ⟨b, o + k, none⟩ = some (.slice A q c') := c1
      clear hpk hlx
      subst e1
      by_cases hdim : (q : Int) = dims
      · subst hdim
        go_wp2
        go_loop [23] (fun i => ∃ j : Nat, j ≤ q ∧ i = .int .i64 j ∧ ∀ x ∈ xs.take j, Num x) (fun i => q - (intOf i).toNat)
        case atStart => exact ⟨0, Nat.zero_le _, rfl, by simp⟩
        case round =>
          obtain ⟨j, hj, rfl, hdj⟩ := hrel
          have HDJ := Lib.hid hdj
          clear hdj
          by_cases hlj : j < q
          · obtain ⟨b2, o2, e4, c2⟩ := HK.out.cell hlj
            replace e4 : A = some ⟨b2, o2, none⟩ := e4
            replace c2 : w.cell? ⟨b2, o2 + j, none⟩ = some (.float .f64 (xs.getD j 0)) := c2
            have HTJ : Hid (xs.take (j + 1) = xs.take j ++ [xs.getD j 0]) := by
              show _ = _
              have : j < xs.length := by rw [HLX.out]; exact hlj
              rw [List.take_succ_eq_append_getElem this]; simp [this]
            obtain ⟨x, ex⟩ : ∃ x, x = xs.getD j 0 := ⟨_, rfl⟩
            rw [← ex] at c2 HTJ
            clear ex
            subst e4
            by_cases hnx : Num x
            · have HN := Lib.hid hnx
              clear hnx
              obtain ⟨g1, hg1⟩ : ∃ g1 : Bool, (FloatKind.f64.format.order x (Op.negFloat .f64 most) == some .gt || FloatKind.f64.format.order x (Op.negFloat .f64 most) == some .eq) = g1 := ⟨_, rfl⟩
              obtain ⟨g2, hg2⟩ : ∃ g2 : Bool, (FloatKind.f64.format.order x most == some .lt || FloatKind.f64.format.order x most == some .eq) = g2 := ⟨_, rfl⟩
              cases g1 <;> cases g2
              all_goals go_wp2_with (go_at_call 26; refine (trunc_any x _ HN.out).mono ?_; rintro _ _ ⟨⟨y, rfl⟩, rfl⟩)
              all_goals first
                | (go_ret; exact grid_no)
                | (go_round
                   case rel =>
                     refine ⟨j + 1, by omega, by go_num, ?_⟩
                     rw [HTJ.out]
                     intro z hz
                     rcases List.mem_append.1 hz with h | h
                     · exact HDJ.out z h
                     · rw [List.mem_singleton.1 h]; exact HN.out
                   case measure => simp [intOf]; omega)
            · have hno : ∀ y, FloatKind.f64.format.order x y = none := fun y => by
                cases hh : FloatKind.f64.format.order x y with
                | none => rfl
                | some z => exact absurd (Num.of_order hh) hnx
              go_wp2
              go_ret
              exact grid_no
          · obtain rfl : j = q := by omega
            go_wp2_with fail
            go_round
            case rel =>
              refine ⟨k + 1, by omega, by go_num, ?_⟩
              rw [HTK.out]
              intro z hz
              rcases List.mem_append.1 hz with h | h
              · exact HD.out z h
              · rw [List.mem_singleton.1 h]
                refine ⟨rfl, ?_⟩
                have := HDJ.out
                rw [List.take_of_length_le (by rw [HLX.out]; exact Nat.le_refl _)] at this
                exact this
            case measure => simp [intOf]; omega
      · have hne : ((q : Int) != dims) = true := by simp [hdim]
        have hne2 : ((q : Int) == dims) = false := by simp [hdim]
        go_wp2
        go_ret
        exact grid_no
    · obtain rfl : k = m := by omega
      by_cases h0 : 0 < dims
      · go_wp2
        go_ret
        refine ⟨rfl, true, rfl, fun _ => ⟨?_, h0⟩⟩
        have := HD.out
        rw [List.take_of_length_le (by omega)] at this
        exact this
      · have hd0 : decide (0 < dims) = false := by simp [h0]
        go_wp2
        go_ret
        exact grid_no
end Go.Proofs.Ytncpdjlladlalaa
