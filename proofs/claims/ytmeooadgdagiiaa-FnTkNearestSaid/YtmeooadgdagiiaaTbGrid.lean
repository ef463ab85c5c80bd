/- The walks of Trunc, Grid, SamePoint, floats, ints over points of whole numbers. Conditions: as each says. -/
import Derived.Test.YtmeooadgdagiiaaTbLess
import Derived.Test.YtmeooadgdagiiaaTbNum
namespace Go.Proofs.Ytmeooadgdagiiaa
open Go.RowKit Lox
set_option linter.unusedVariables false

/-- A number without its broken part. -/
def trW (x : Nat) : Nat := FloatKind.f64.encode ((FloatKind.f64.decode x).integral .zero)

/-- A point that came in. -/
def TP.Rd (w : World) (p : TP) : Prop := Sl w p.A p.xs.length 1 (flts p.xs) ∧ p.xs.length ≤ 9223372036854775807

theorem TP.Rd.cell {w : World} {p : TP} (h : p.Rd w) {k : Nat} (hk : k < p.xs.length) : ∃ b o, p.A = some ⟨b, o, none⟩ ∧ w.cell? ⟨b, o + k, none⟩ = some (.float .f64 (p.xs.getD k 0)) := by
  obtain ⟨b, o, v, e1, e2, e3⟩ := h.1.at1 hk
  rw [flts_getD hk] at e2
  cases e2
  exact ⟨b, o, e1, e3⟩

theorem TP.Rd.mod {w w' : World} {p : TP} (h : p.Rd w) (hm : Mod (fun _ => False) w w') : p.Rd w' := ⟨h.1.mod hm, h.2⟩

theorem run_trunc (x : Nat) (hx : Num x) (w : World) : (callFunc 74 #[.float .f64 x]).run Try.prog w = .ok (.value (.float .f64 (trW x))) w := by
  have key : ∀ d, FloatKind.f64.decode x = d → d.isNaN = false → (Extern.MathFloor.toIntegral "math.archTrunc" .zero #[.float .f64 x]) = pure (.float .f64 (FloatKind.f64.encode (d.integral .zero))) := by
    intro d hd hn
    delta Extern.MathFloor.toIntegral
    conv => lhs; whnf
    rw [hd]
    cases d with
    | nan s t => simp [Ieee.Datum.isNaN] at hn
    | number s m i => rfl
    | infinity s => rfl
  rw [run_callFunc_extern Try.func74 (by kernel_rfl) (by kernel_rfl) (by kernel_rfl) (e := Extern.MathFloor.toIntegral "math.archTrunc" .zero) (by kernel_rfl), key _ rfl hx]
  rfl

set_option maxHeartbeats 400000 in
theorem trunc_any (x y : Nat) (w : World) (hx : Num x) (hy : y = trW x) :
    Calls Try.prog 60 #[.float .f64 x] w fun e w' => e = .returned (.float .f64 y) ∧ w = w' := by
  subst hy
  have hy := run_trunc x hx
  generalize trW x = y at hy ⊢
  go_enter Try.func60, Try.ntmps60
  go_wp2
  go_ret
  exact ⟨rfl, rfl⟩

/-- What Grid tells of points: where it says yes, each is of the size asked for, and each of its numbers is a whole one within 2^20. -/
def GridTold (pts : List TP) (dims : Int) (w : World) (e : Ending) (w' : World) : Prop :=
  w = w' ∧ ∃ b, e = .returned (.bool b) ∧ (b = true → (∀ p ∈ pts, (p.xs.length : Int) = dims ∧ ∀ x ∈ p.xs, ∃ n, Wh x n) ∧ 0 < dims)

theorem grid_no {pts : List TP} {dims : Int} {w : World} : GridTold pts dims w (.returned (.bool false)) w := ⟨rfl, false, rfl, fun h => by cases h⟩

set_option maxHeartbeats 2000000 in
theorem grid_any (O : Option Addr) (m c : Nat) (pts : List TP) (dims : Int) (w : World) (ho : Sl w O m 1 (pts.map TP.v)) (hm : m ≤ 9223372036854775807) (hp : ∀ p ∈ pts, p.Rd w) :
    Calls Try.prog 27 #[.slice O m c, .int .i64 dims, .float .f64 4697254411347427328] w (GridTold pts dims w) := by
  have hl : pts.length = m := by have := ho.1; simpa using this
  have hneg : ∀ (x : Nat) (w : World), (Op.unary .neg (.float .f64 x)).run Try.prog w = .ok (.float .f64 (Op.negFloat .f64 x)) w := fun _ _ => rfl
  go_enter Try.func27, Try.ntmps27
  go_wp2
  go_loop [13] (fun i => ∃ k : Nat, k ≤ m ∧ i = .int .i64 k ∧ ∀ p ∈ pts.take k, (p.xs.length : Int) = dims ∧ ∀ x ∈ p.xs, ∃ n, Wh x n) (fun i => m - (intOf i).toNat)
  case atStart => exact ⟨0, Nat.zero_le _, rfl, by simp⟩
  case round =>
    obtain ⟨k, hk, rfl, hdone⟩ := hrel
    have HD := Lib.hid hdone
    clear hdone
    by_cases hlt : k < m
    · obtain ⟨b, o, v, e1, e2, c1⟩ := ho.at1 hlt
      have hk2 : k < pts.length := by omega
      have e3 : (pts.map TP.v)[k]? = some (pts[k]).v := by simp [hk2]
      rw [e3] at e2
      cases e2
      have hpk : (pts[k]).Rd w := hp _ (List.getElem_mem hk2)
      obtain ⟨p, ep⟩ : ∃ p, p = pts[k] := ⟨_, rfl⟩
      rw [← ep] at c1 hpk e3
      have HTK : Hid (pts.take (k + 1) = pts.take k ++ [p]) := by show _ = _; rw [List.take_succ_eq_append_getElem hk2, ep]
      clear ep e3 hk2
      obtain ⟨A, c', xs⟩ := p
      obtain ⟨q, hlx⟩ : ∃ q, xs.length = q := ⟨_, rfl⟩
      have hpn : q ≤ 9223372036854775807 := by rw [← hlx]; exact hpk.2
      have HK : Hid (TP.Rd w ⟨A, c', xs⟩) := hpk
      have HLX := Lib.hid hlx
      replace c1 : w.cell? ⟨b, o + k, none⟩ = some (.slice A q c') := by rw [← hlx]; exact c1
      clear hpk hlx
      subst e1
      by_cases hdim : (q : Int) = dims
      · subst hdim
        go_wp2
        go_loop [23] (fun i => ∃ j : Nat, j ≤ q ∧ i = .int .i64 j ∧ ∀ x ∈ xs.take j, ∃ n, Wh x n) (fun i => q - (intOf i).toNat)
        case atStart => exact ⟨0, Nat.zero_le _, rfl, by simp⟩
        case round =>
          obtain ⟨j, hj, rfl, hdj⟩ := hrel
          have HDJ := Lib.hid hdj
          clear hdj
          by_cases hlj : j < q
          · obtain ⟨b2, o2, e4, c2⟩ := HK.out.cell (k := j) (by show j < xs.length; rw [HLX.out]; exact hlj)
            replace e4 : A = some ⟨b2, o2, none⟩ := e4
            replace c2 : w.cell? ⟨b2, o2 + j, none⟩ = some (.float .f64 (xs.getD j 0)) := c2
            have HTJ : Hid (xs.take (j + 1) = xs.take j ++ [xs.getD j 0]) := by
              show _ = _
              have : j < xs.length := by rw [HLX.out]; exact hlj
              rw [List.take_succ_eq_append_getElem this]; simp [this]
            obtain ⟨x, ex⟩ : ∃ x, x = xs.getD j 0 := ⟨_, rfl⟩
            rw [← ex] at c2 HTJ
            clear ex
            subst e4
            by_cases hnx : Num x
            · have HN := Lib.hid hnx
              clear hnx
              obtain ⟨g1, hg1⟩ : ∃ g1 : Bool, (FloatKind.f64.format.order x (Op.negFloat .f64 4697254411347427328) == some .gt || FloatKind.f64.format.order x (Op.negFloat .f64 4697254411347427328) == some .eq) = g1 := ⟨_, rfl⟩
              obtain ⟨g2, hg2⟩ : ∃ g2 : Bool, (FloatKind.f64.format.order x 4697254411347427328 == some .lt || FloatKind.f64.format.order x 4697254411347427328 == some .eq) = g2 := ⟨_, rfl⟩
              obtain ⟨y, hy⟩ : ∃ y, y = trW x := ⟨_, rfl⟩
              obtain ⟨g3, hg3⟩ : ∃ g3 : Bool, (FloatKind.f64.format.order x y == some .eq) = g3 := ⟨_, rfl⟩
              have hg3n : (FloatKind.f64.format.order x y != some .eq) = !g3 := by rw [← hg3]; rfl
              have HY := Lib.hid hy
              clear hy
              cases g1 <;> cases g2 <;> cases g3
              all_goals go_wp2_with (go_at_call 60; refine (trunc_any x y _ HN.out HY.out).mono ?_; rintro _ _ ⟨rfl, rfl⟩)
              all_goals first
                | (go_ret; exact grid_no)
                | (go_round
                   case rel =>
                     refine ⟨j + 1, by omega, by go_num, ?_⟩
                     rw [HTJ.out]
                     intro z hz
                     rcases List.mem_append.1 hz with h | h
                     · exact HDJ.out z h
                     · rw [List.mem_singleton.1 h]
                       refine whole_of_look hg1 hg2 ?_
                       have e5 := eq_of_beq hg3
                       rw [HY.out] at e5
                       exact e5
                   case measure => simp [intOf]; omega)
            · have hno : ∀ y, FloatKind.f64.format.order x y = none := fun y => by
                cases hh : FloatKind.f64.format.order x y with
                | none => rfl
                | some z => exact absurd (Num.of_order hh) hnx
              go_wp2
              go_ret
              exact grid_no
          · obtain rfl : j = q := by omega
            go_wp2_with fail
            go_round
            case rel =>
              refine ⟨k + 1, by omega, by go_num, ?_⟩
              rw [HTK.out]
              intro z hz
              rcases List.mem_append.1 hz with h | h
              · exact HD.out z h
              · rw [List.mem_singleton.1 h]
                refine ⟨by show (xs.length : Int) = _; rw [HLX.out], ?_⟩
                have := HDJ.out
                rw [List.take_of_length_le (by rw [HLX.out]; exact Nat.le_refl _)] at this
                exact this
            case measure => simp [intOf]; omega
      · have hne : ((q : Int) != dims) = true := by simp [hdim]
        have hne2 : ((q : Int) == dims) = false := by simp [hdim]
        go_wp2
        go_ret
        exact grid_no
    · obtain rfl : k = m := by omega
      by_cases h0 : 0 < dims
      · go_wp2
        go_ret
        refine ⟨rfl, true, rfl, fun _ => ⟨?_, h0⟩⟩
        have := HD.out
        rw [List.take_of_length_le (by omega)] at this
        exact this
      · have hd0 : decide (0 < dims) = false := by simp [h0]
        go_wp2
        go_ret
        exact grid_no
end Go.Proofs.Ytmeooadgdagiiaa
