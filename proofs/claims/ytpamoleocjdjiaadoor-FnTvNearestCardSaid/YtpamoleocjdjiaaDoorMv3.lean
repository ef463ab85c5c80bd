/- Steps of a proof, one behind another: Whole numbers as float numbers: what is equal to itself without its broken part. The walks of Trunc, Grid, SamePoint, floats, ints over points of whole numbers. The walks of the copies: floats, ints; SamePoint. Conditions: rows of at most 2^40 numbers. The walks of Compare and insert over a k-d tree in memory. Squared distances as float numbers, infinite or whole; math.Inf, math.Min. Points that are inserted into a k-d tree, as plain functions. The search in a k-d tree, in plain Lean. The walks of Distance and SquareN over points of whole numbers. Conditions: as each theorem says. -/
import Derived.Test.YtpamoleocjdjiaaDoorMv2
import Derived.Maps.AppendAt
import Derived.Deep.RegionHeld3
import Derived.Deep.DrawnRows
import Derived.Deep.DeepCutAuto
import Derived.Deep.QuietTactic
import Derived.IntWalk
import Derived.Test.YtpamoleocjdjiaaDoorRows

namespace Lox
open Go
set_option linter.unusedVariables false

/-- The word x stands for a whole number within 2^20. -/
def Wh (x : Nat) (n : Int) : Prop := Gd 0 x n ∧ n.natAbs ≤ 1024

theorem gd0_of_is {x : Nat} {n : Int} (h : Is x (n : Rat)) : Gd 0 x n := by
  have := Gd.of_int h 0
  rw [Int.pow_zero, Int.mul_one] at this
  exact this

theorem two20 : FloatKind.f64.nearest 1024 = 4652218415073722368 := by decide +kernel
theorem two20n : FloatKind.f64.nearest (-1024) = Op.negFloat .f64 4652218415073722368 := by decide +kernel
theorem is_two20 : Is 4652218415073722368 ((1024 : Int) : Rat) := by rw [← two20]; exact nearest_is _ (by decide)
theorem is_two20n : Is (Op.negFloat .f64 4652218415073722368) ((-1024 : Int) : Rat) := by rw [← two20n]; exact nearest_is _ (by decide)
theorem zero0 : FloatKind.f64.nearest 0 = 0 := by decide +kernel
theorem is_zero : Is 0 ((0 : Int) : Rat) := by rw [← zero0]; exact nearest_is _ (by decide)

theorem cut_zero (neg : Bool) (n drop : Nat) : Ieee.Toward.zero.cut neg n drop = n / 2 ^ drop := by
  unfold Ieee.Toward.cut
  simp only [Nat.one_shiftLeft, Bool.toNat_false, Nat.add_zero]
  rcases Nat.le_total drop (n.log2 + 2) with h | h
  · rw [Nat.min_eq_left h]
  · rw [Nat.min_eq_right h]
    have h1 : n < 2 ^ (n.log2 + 2) := by
      have := Nat.lt_log2_self (n := n)
      have h2 : 2 ^ (n.log2 + 1) ≤ 2 ^ (n.log2 + 2) := Nat.pow_le_pow_right (by decide) (by omega)
      omega
    have h2 : 2 ^ (n.log2 + 2) ≤ 2 ^ drop := Nat.pow_le_pow_right (by decide) h
    rw [Nat.div_eq_of_lt h1, Nat.div_eq_of_lt (by omega)]

theorem trunc_le (m : Nat) (i : Int) : (((m <<< i.toNat) / 2 ^ (-i).toNat : Nat) : Rat) ≤ (m : Rat) * p2 i := by
  rcases Int.le_total 0 i with h | h
  · have e : (-i).toNat = 0 := by omega
    rw [e, Nat.pow_zero, Nat.div_one, Nat.shiftLeft_eq, Rat.natCast_mul, p2_toNat h]
    exact Rat.le_refl
  · have e : i.toNat = 0 := by omega
    rw [e, Nat.shiftLeft_zero]
    have h1 : m / 2 ^ (-i).toNat * 2 ^ (-i).toNat ≤ m := Nat.div_mul_le_self _ _
    have h2 : ((m / 2 ^ (-i).toNat : Nat) : Rat) * ((2 ^ (-i).toNat : Nat) : Rat) ≤ (m : Rat) := by
      rw [← Rat.natCast_mul]; exact Rat.natCast_le_natCast.2 h1
    rw [← p2_toNat (i := -i) (by omega)] at h2
    have h3 := Rat.mul_le_mul_of_nonneg_right h2 (Rat.le_of_lt (p2_pos i))
    have h4 : p2 (-i) * p2 i = 1 := by rw [← p2_add, ← p2_zero]; congr 1; omega
    rw [Rat.mul_assoc, h4, Rat.mul_one] at h3
    exact h3

theorem trunc_wh {x : Nat} (hx : Fw x) (hb : (vl x).abs ≤ ((1024 : Nat) : Rat)) (he : FloatKind.f64.format.order x (FloatKind.f64.encode ((FloatKind.f64.decode x).integral .zero)) = some .eq) : ∃ n, Wh x n := by
  obtain ⟨s, m, i, hd⟩ := hx
  have hx : Fw x := ⟨s, m, i, hd⟩
  have hvx : (vl x).abs = (m : Rat) * p2 i := by unfold vl; rw [hd, dv_abs]
  obtain ⟨K, hK⟩ : ∃ K, K = (m <<< i.toNat) / 2 ^ (-i).toNat := ⟨_, rfl⟩
  have hKm : (K : Rat) ≤ ((1024 : Nat) : Rat) := by
    rw [hK]
    have := trunc_le m i
    rw [hvx] at hb
    exact Rat.le_trans this hb
  have hK2 : K ≤ 1024 := Rat.natCast_le_natCast.1 hKm
  have hint : (FloatKind.f64.decode x).integral .zero = .number s K 0 := by
    rw [hd]
    unfold Ieee.Datum.integral
    dsimp only
    rw [cut_zero, hK]
  rw [hint] at he
  obtain ⟨n, hn⟩ : ∃ n : Int, n = if s then -(K : Int) else (K : Int) := ⟨_, rfl⟩
  have hnb : n.natAbs = K := by rw [hn]; cases s <;> simp
  have ha : (n : Rat) = dv (.number s K 0) := by
    unfold dv sg
    dsimp only
    rw [p2_zero, Rat.mul_one, hn]
    cases s
    · simp [Rat.one_mul]; rfl
    · simp [Rat.intCast_neg, Rat.neg_mul, Rat.one_mul]; rfl
  have hlt : (n : Rat).abs < p2 1000 := by
    have h1 := int_lt_p2 n 53 (by have : (2 ^ 53 : Nat) = 9007199254740992 := by decide
                                  omega)
    exact rlt_le h1 (p2_le (by omega))
  obtain ⟨h1, -, h3⟩ := write_ok s K 0 _ ha hlt
  have hy : Fw (Ieee.double.write (.number s K 0)) := h1
  have hv := h3 (rep_whole n (by omega))
  have he2 := or_eq hx hy
  have he3 : FloatKind.f64.format.order x (Ieee.double.write (.number s K 0)) = some .eq := he
  rw [he3] at he2
  have he4 : vl x = vl (Ieee.double.write (.number s K 0)) := of_decide_eq_true he2.symm
  rw [hv] at he4
  exact ⟨n, gd0_of_is ⟨hx, he4⟩, by omega⟩

theorem order_num_fw {x y : Nat} {o : Ordering} (hy : Fw y) (h : FloatKind.f64.format.order x y = some o) (hinf : FloatKind.f64.decode x ≠ .infinity false ∧ FloatKind.f64.decode x ≠ .infinity true) : Fw x := by
  have hn := Num.of_order h
  unfold Num at hn
  unfold Fw Fnt
  cases hd : FloatKind.f64.decode x with
  | number s m i => exact ⟨s, m, i, rfl⟩
  | infinity s => cases s; exact absurd hd hinf.1; exact absurd hd hinf.2
  | nan s t => rw [hd] at hn; simp [Ieee.Datum.isNaN] at hn

/-- The look at a number that the laws take: within 2^20 both ways, and equal to itself without its broken part. -/
theorem whole_of_look {x : Nat} (h1 : (FloatKind.f64.format.order x (Op.negFloat .f64 4652218415073722368) == some .gt || FloatKind.f64.format.order x (Op.negFloat .f64 4652218415073722368) == some .eq) = true)
    (h2 : (FloatKind.f64.format.order x 4652218415073722368 == some .lt || FloatKind.f64.format.order x 4652218415073722368 == some .eq) = true)
    (h3 : FloatKind.f64.format.order x (FloatKind.f64.encode ((FloatKind.f64.decode x).integral .zero)) = some .eq) : ∃ n, Wh x n := by
  have hinf : FloatKind.f64.decode x ≠ .infinity false ∧ FloatKind.f64.decode x ≠ .infinity true := by
    constructor
    · intro hd
      have e : FloatKind.f64.format.order x 4652218415073722368 = some .gt := by
        show (FloatKind.f64.decode x).order (FloatKind.f64.decode 4652218415073722368) = _
        obtain ⟨s, m, i, hc⟩ := is_two20.1
        rw [hd, hc]; rfl
      rw [e] at h2
      revert h2; decide
    · intro hd
      have e : FloatKind.f64.format.order x (Op.negFloat .f64 4652218415073722368) = some .lt := by
        show (FloatKind.f64.decode x).order (FloatKind.f64.decode (Op.negFloat .f64 4652218415073722368)) = _
        obtain ⟨s, m, i, hc⟩ := is_two20n.1
        rw [hd, hc]; rfl
      rw [e] at h1
      revert h1; decide
  have hx : Fw x := by
    cases ho : FloatKind.f64.format.order x 4652218415073722368 with
    | none => rw [ho] at h2; exact absurd h2 (by decide)
    | some o => exact order_num_fw is_two20.1 ho hinf
  rw [or_ge hx is_two20n.1, is_two20n.2] at h1
  rw [or_le hx is_two20.1, is_two20.2] at h2
  have h1 := of_decide_eq_true h1
  have h2 := of_decide_eq_true h2
  refine trunc_wh hx ?_ h3
  rw [abs_le_iff]
  have e1 : ((1024 : Int) : Rat) = ((1024 : Nat) : Rat) := rfl
  have e2 : ((-1024 : Int) : Rat) = -((1024 : Nat) : Rat) := by rw [← e1, ← Rat.intCast_neg]
  rw [e2] at h1
  rw [e1] at h2
  exact ⟨h1, h2⟩
end Lox

namespace Go.Proofs.YtpamoleocjdjiaaDoor
open Go.RowKit Lox
set_option linter.unusedVariables false

/-- A number without its broken part. -/
def trW (x : Nat) : Nat := FloatKind.f64.encode ((FloatKind.f64.decode x).integral .zero)

/-- A point that came in. -/
def TP.Rd (w : World) (p : TP) : Prop := Sl w p.A p.xs.length 1 (flts p.xs) ∧ p.xs.length ≤ 9223372036854775807

theorem TP.Rd.cell {w : World} {p : TP} (h : p.Rd w) {k : Nat} (hk : k < p.xs.length) : ∃ b o, p.A = some ⟨b, o, none⟩ ∧ w.cell? ⟨b, o + k, none⟩ = some (.float .f64 (p.xs.getD k 0)) := by
  obtain ⟨b, o, v, e1, e2, e3⟩ := h.1.at1 hk
  rw [flts_getD hk] at e2
  cases e2
  exact ⟨b, o, e1, e3⟩

theorem TP.Rd.mod {w w' : World} {p : TP} (h : p.Rd w) (hm : Mod (fun _ => False) w w') : p.Rd w' := ⟨h.1.mod hm, h.2⟩

theorem run_trunc (x : Nat) (hx : Num x) (w : World) : (callFunc 53 #[.float .f64 x]).run Tryd.prog w = .ok (.value (.float .f64 (trW x))) w := by
  have key : ∀ d, FloatKind.f64.decode x = d → d.isNaN = false → (Extern.MathFloor.toIntegral "math.archTrunc" .zero #[.float .f64 x]) = pure (.float .f64 (FloatKind.f64.encode (d.integral .zero))) := by
    intro d hd hn
    delta Extern.MathFloor.toIntegral
    conv => lhs; whnf
    rw [hd]
    cases d with
    | nan s t => simp [Ieee.Datum.isNaN] at hn
    | number s m i => rfl
    | infinity s => rfl
  rw [run_callFunc_extern Tryd.func53 (by kernel_rfl) (by kernel_rfl) (by kernel_rfl) (e := Extern.MathFloor.toIntegral "math.archTrunc" .zero) (by kernel_rfl), key _ rfl hx]
  rfl

set_option maxHeartbeats 400000 in
theorem trunc_any (x y : Nat) (w : World) (hx : Num x) (hy : y = trW x) :
    Calls Tryd.prog 42 #[.float .f64 x] w fun e w' => e = .returned (.float .f64 y) ∧ w = w' := by
  subst hy
  have hy := run_trunc x hx
  generalize trW x = y at hy ⊢
  go_enter Tryd.func42, Tryd.ntmps42
  go_wp2
  go_ret
  exact ⟨rfl, rfl⟩

/-- What Grid tells of points: where it says yes, each is of the size asked for, and each of its numbers is a whole one within 2^20. -/
def GridTold (pts : List TP) (dims : Int) (w : World) (e : Ending) (w' : World) : Prop :=
  w = w' ∧ ∃ b, e = .returned (.bool b) ∧ (b = true → (∀ p ∈ pts, (p.xs.length : Int) = dims ∧ ∀ x ∈ p.xs, ∃ n, Wh x n) ∧ 0 < dims)

theorem grid_no {pts : List TP} {dims : Int} {w : World} : GridTold pts dims w (.returned (.bool false)) w := ⟨rfl, false, rfl, fun h => by cases h⟩

set_option maxHeartbeats 2000000 in
theorem grid_any (O : Option Addr) (m c : Nat) (pts : List TP) (dims : Int) (w : World) (ho : Sl w O m 1 (pts.map TP.v)) (hm : m ≤ 9223372036854775807) (hp : ∀ p ∈ pts, p.Rd w) :
    Calls Tryd.prog 21 #[.slice O m c, .int .i64 dims, .float .f64 4652218415073722368] w (GridTold pts dims w) := by
  have hl : pts.length = m := by have := ho.1; simpa using this
  have hneg : ∀ (x : Nat) (w : World), (Op.unary .neg (.float .f64 x)).run Tryd.prog w = .ok (.float .f64 (Op.negFloat .f64 x)) w := fun _ _ => rfl
  go_enter Tryd.func21, Tryd.ntmps21
  go_wp2
  go_loop [13] (fun i => ∃ k : Nat, k ≤ m ∧ i = .int .i64 k ∧ ∀ p ∈ pts.take k, (p.xs.length : Int) = dims ∧ ∀ x ∈ p.xs, ∃ n, Wh x n) (fun i => m - (intOf i).toNat)
  case atStart => exact ⟨0, Nat.zero_le _, rfl, by simp⟩
  case round =>
    obtain ⟨k, hk, rfl, hdone⟩ := hrel
    have HD := Lib.hid hdone
    clear hdone
    by_cases hlt : k < m
    · obtain ⟨b, o, v, e1, e2, c1⟩ := ho.at1 hlt
      have hk2 : k < pts.length := by omega
      have e3 : (pts.map TP.v)[k]? = some (pts[k]).v := by simp [hk2]
      rw [e3] at e2
      cases e2
      have hpk : (pts[k]).Rd w := hp _ (List.getElem_mem hk2)
      obtain ⟨p, ep⟩ : ∃ p, p = pts[k] := ⟨_, rfl⟩
      rw [← ep] at c1 hpk e3
      have HTK : Hid (pts.take (k + 1) = pts.take k ++ [p]) := by show _ = _; rw [List.take_succ_eq_append_getElem hk2, ep]
      clear ep e3 hk2
      obtain ⟨A, c', xs⟩ := p
      obtain ⟨q, hlx⟩ : ∃ q, xs.length = q := ⟨_, rfl⟩
      have hpn : q ≤ 9223372036854775807 := by rw [← hlx]; exact hpk.2
      have HK : Hid (TP.Rd w ⟨A, c', xs⟩) := hpk
      have HLX := Lib.hid hlx
      replace c1 : w.cell? ⟨b, o + k, none⟩ = some (.slice A q c') := by rw [← hlx]; exact c1
      clear hpk hlx
      subst e1
      by_cases hdim : (q : Int) = dims
      · subst hdim
        go_wp2
        go_loop [23] (fun i => ∃ j : Nat, j ≤ q ∧ i = .int .i64 j ∧ ∀ x ∈ xs.take j, ∃ n, Wh x n) (fun i => q - (intOf i).toNat)
        case atStart => exact ⟨0, Nat.zero_le _, rfl, by simp⟩
        case round =>
          obtain ⟨j, hj, rfl, hdj⟩ := hrel
          have HDJ := Lib.hid hdj
          clear hdj
          by_cases hlj : j < q
          · obtain ⟨b2, o2, e4, c2⟩ := HK.out.cell (k := j) (by show j < xs.length; rw [HLX.out]; exact hlj)
            replace e4 : A = some ⟨b2, o2, none⟩ := e4
            replace c2 : w.cell? ⟨b2, o2 + j, none⟩ = some (.float .f64 (xs.getD j 0)) := c2
            have HTJ : Hid (xs.take (j + 1) = xs.take j ++ [xs.getD j 0]) := by
              show _ = _
              have : j < xs.length := by rw [HLX.out]; exact hlj
              rw [List.take_succ_eq_append_getElem this]; simp [this]
            obtain ⟨x, ex⟩ : ∃ x, x = xs.getD j 0 := ⟨_, rfl⟩
            rw [← ex] at c2 HTJ
            clear ex
            subst e4
            by_cases hnx : Num x
            · have HN := Lib.hid hnx
              clear hnx
              obtain ⟨g1, hg1⟩ : ∃ g1 : Bool, (FloatKind.f64.format.order x (Op.negFloat .f64 4652218415073722368) == some .gt || FloatKind.f64.format.order x (Op.negFloat .f64 4652218415073722368) == some .eq) = g1 := ⟨_, rfl⟩
              obtain ⟨g2, hg2⟩ : ∃ g2 : Bool, (FloatKind.f64.format.order x 4652218415073722368 == some .lt || FloatKind.f64.format.order x 4652218415073722368 == some .eq) = g2 := ⟨_, rfl⟩
              obtain ⟨y, hy⟩ : ∃ y, y = trW x := ⟨_, rfl⟩
              obtain ⟨g3, hg3⟩ : ∃ g3 : Bool, (FloatKind.f64.format.order x y == some .eq) = g3 := ⟨_, rfl⟩
              have hg3n : (FloatKind.f64.format.order x y != some .eq) = !g3 := by rw [← hg3]; rfl
              have HY := Lib.hid hy
              clear hy
              cases g1 <;> cases g2 <;> cases g3
              all_goals go_wp2_with (go_at_call 42; refine (trunc_any x y _ HN.out HY.out).mono ?_; rintro _ _ ⟨rfl, rfl⟩)
              all_goals first
                | (go_ret; exact grid_no)
                | (go_round
                   case rel =>
                     refine ⟨j + 1, by omega, by go_num, ?_⟩
                     rw [HTJ.out]
                     intro z hz
                     rcases List.mem_append.1 hz with h | h
                     · exact HDJ.out z h
                     · rw [List.mem_singleton.1 h]
                       refine whole_of_look hg1 hg2 ?_
                       have e5 : FloatKind.f64.format.order x y = some .eq := by
                         revert hg3
                         generalize FloatKind.f64.format.order x y = o
                         intro hg3
                         cases o with
                         | none => cases hg3
                         | some o => cases o <;> first | rfl | cases hg3
                       rw [HY.out] at e5
                       exact e5
                   case measure => simp [intOf]; omega)
            · have hno : ∀ y, FloatKind.f64.format.order x y = none := fun y => by
                cases hh : FloatKind.f64.format.order x y with
                | none => rfl
                | some z => exact absurd (Num.of_order hh) hnx
              go_wp2
              go_ret
              exact grid_no
          · obtain rfl : j = q := by omega
            go_wp2_with fail
            go_round
            case rel =>
              refine ⟨k + 1, by omega, by go_num, ?_⟩
              rw [HTK.out]
              intro z hz
              rcases List.mem_append.1 hz with h | h
              · exact HD.out z h
              · rw [List.mem_singleton.1 h]
                refine ⟨by show (xs.length : Int) = _; rw [HLX.out], ?_⟩
                have := HDJ.out
                rw [List.take_of_length_le (by rw [HLX.out]; exact Nat.le_refl _)] at this
                exact this
            case measure => simp [intOf]; omega
      · have hne : ((q : Int) != dims) = true := by simp [hdim]
        have hne2 : ((q : Int) == dims) = false := by simp [hdim]
        go_wp2
        go_ret
        exact grid_no
    · obtain rfl : k = m := by omega
      by_cases h0 : 0 < dims
      · go_wp2
        go_ret
        refine ⟨rfl, true, rfl, fun _ => ⟨?_, h0⟩⟩
        have := HD.out
        rw [List.take_of_length_le (by omega)] at this
        exact this
      · have hd0 : decide (0 < dims) = false := by simp [h0]
        go_wp2
        go_ret
        exact grid_no
end Go.Proofs.YtpamoleocjdjiaaDoor

namespace Go.Proofs.YtpamoleocjdjiaaDoor
open Go.RowKit Lox
set_option linter.unusedVariables false
attribute [local go_sem] run_store_flt

theorem info_f64 : (Tryd.prog.info? 27).map (fun i => (i.zero, i.size, i.bytes)) = some (some (.float .f64 0), 1, 8) := by kernel_rfl
theorem info_int : (Tryd.prog.info? 3).map (fun i => (i.zero, i.size, i.bytes)) = some (some (.int .i64 0), 1, 8) := by kernel_rfl

/-- A copy of a point, in memory of its own. -/
def NewPt (n : Nat) (xs : List Nat) (w : World) (e : Ending) (w' : World) : Prop :=
  ∃ A' c', e = .returned (.slice A' n c') ∧ Sl w' A' n 1 (flts xs) ∧ Mod (fun _ => False) w w' ∧ ∀ b o, A' = some ⟨b, o, none⟩ → w.heap.size ≤ b

theorem mod_of_grown {w w' : World} (h : w.grownBy w' none) : Mod (fun _ => False) w w' := ⟨h.os, h.tape, h.output, h.size, fun k hk _ => h.block k hk (by simp)⟩

set_option maxHeartbeats 1000000 in
theorem floats_any (A : Option Addr) (n c : Nat) (xs : List Nat) (w : World) (h : Sl w A n 1 (flts xs)) (hn : n ≤ 1099511627776) (h0 : 0 < n) :
    Calls Tryd.prog 37 #[.slice A n c] w (NewPt n xs w) := by
  obtain ⟨i0, hi0, hz0, hz1, hz2⟩ := info_parts info_f64
  have HI := Lib.hid (And.intro hi0 (And.intro hz0 (And.intro hz1 hz2)))
  clear hi0 hz0 hz1 hz2
  have hlx : xs.length = n := by have := h.1; simpa [flts] using this
  obtain ⟨b, o, e, hc⟩ := h.2 h0
  subst e
  have H := Lib.hid h
  have HC := Lib.hid hc
  have HLX := Lib.hid hlx
  clear h hc hlx
  go_enter Tryd.func37, Tryd.ntmps37
  go_wp2_with (at_builtin; refine wpList_append_lies _ rfl _ _ _ rfl w.heap.size 27 i0 (.float .f64 0) 1 8 Tryd.underlying26 HI.out.1 HI.out.2.1 HI.out.2.2.1 HI.out.2.2.2 rfl (by decide) (.slice none 0 0) 0 [] rfl (World.ownsRow_nil _ _ _ _) ⟨b, o, none⟩ n c (flts xs) rfl (by rw [H.out.1]) (by intro j u hu; rw [addr_lit]; exact HC.out j u hu) (by intro u hu; obtain ⟨z, _, rfl⟩ := List.mem_map.1 hu; rfl) h0 (by unfold maxLen; omega) (by omega) (Nat.le_refl _) w.heap.size rfl ?_; intro g cap w1 hown hgrow hat hlt)
  go_ret
  have hg : g = w.heap.size := by
    rcases hat with hat | hat
    · cases hat
    · exact hat
  simp only [Nat.zero_add, List.nil_append] at hown ⊢
  refine ⟨_, _, rfl, ⟨H.out.1, fun _ => ⟨g, 0, rfl, fun j u hu => ?_⟩⟩, mod_of_grown hgrow, fun b' o' e' => ?_⟩
  · have := hown.cells (g := g) rfl j u hu
    rw [addr_lit] at this
    exact this
  · cases e'
    omega

/-- A copy of a row of whole numbers, in memory of its own. -/
def NewInts (n : Nat) (xs : List Int) (w : World) (e : Ending) (w' : World) : Prop :=
  ∃ A' c', e = .returned (.slice A' n c') ∧ Sl w' A' n 1 (ints xs) ∧ Mod (fun _ => False) w w' ∧ n ≤ c' ∧ c' ≤ 9223372036854775807 ∧ ∀ b o, A' = some ⟨b, o, none⟩ → w.heap.size ≤ b

theorem own_newInts {w w1 : World} {v : Value} {n : Nat} {xs : List Int} (hown : w1.ownsRow w.heap.size 3 1 v n (ints xs)) (hm : Mod (fun _ => False) w w1) : NewInts n xs w (.returned v) w1 := by
  rcases hown.2 with ⟨rfl, h0⟩ | ⟨g, cap, cur, e1, hb, hg, hc, hcm, hsz, ht⟩
  · subst h0
    exact ⟨none, 0, rfl, ⟨by have := hown.1; simpa using this, fun h => by omega⟩, hm, Nat.le_refl _, by omega, fun b o e => by cases e⟩
  · subst e1
    refine ⟨_, _, rfl, ⟨hown.1, fun _ => ⟨g, 0, rfl, fun j u hu => ?_⟩⟩, hm, hc, hcm, fun b' o' e' => ?_⟩
    · have := hown.cells (g := g) rfl j u hu
      rw [addr_lit] at this
      exact this
    · cases e'
      exact hb

end Go.Proofs.YtpamoleocjdjiaaDoor

namespace Go.Proofs.YtpamoleocjdjiaaDoor
open Go.RowKit Lox
set_option linter.unusedVariables false
attribute [local go_sem] run_store_flt run_store_fn
attribute [local go_sem ↓] Go.wp_at_zero Go.wp_at_succ

/-- A point of whole numbers. -/
def TP.Gr (p : TP) : Prop := ∀ d, d < p.xs.length → ∃ a, Wh (p.n d) a

theorem TP.gr_of {p : TP} (h : ∀ x ∈ p.xs, ∃ n, Wh x n) : p.Gr := fun d hd => by
  have e : p.n d = p.xs[d] := by simp [TP.n, hd]
  rw [e]
  exact h _ (List.getElem_mem hd)

theorem _root_.Lox.Mod.drewN {S : Nat → Prop} {a w : World} (h : Mod S a w) (n : Nat) : Mod S a (w.drewN n) := ⟨h.os, h.tape, h.output, h.size, h.block⟩

theorem TP.Ok.drew {w : World} {dims : Nat} {p : TP} (h : p.Ok w dims) : p.Ok w.drew dims := h

theorem TP.Ok.mod0 {w w' : World} {dims : Nat} {p : TP} (h : p.Ok w dims) (hm : Mod (fun _ => False) w w') : p.Ok w' dims := ⟨h.1, h.2.mod hm⟩

/-- The program's look: the first one's number is not above the second one's. -/
theorem le_look {r : Nat} {a b : Int} (hr : Gd 0 r (a - b)) : (FloatKind.f64.format.order r 0 == some .lt || FloatKind.f64.format.order r 0 == some .eq) = decide (a ≤ b) := by
  have hz : Gd 0 0 0 := gd0_of_is is_zero
  rw [hr.lt hz, hr.eq hz]
  by_cases h : a ≤ b
  · rw [decide_eq_true h]
    rcases Int.lt_or_eq_of_le h with h1 | h1
    · rw [decide_eq_true (by omega : a - b < 0)]; rfl
    · rw [decide_eq_true (by omega : a - b = 0), Bool.or_true]
  · rw [decide_eq_false h, decide_eq_false (by omega), decide_eq_false (by omega)]; rfl

theorem leB_int {d : Nat} {p q : TP} {a b : Int} (ha : Wh (p.n d) a) (hb : Wh (q.n d) b) : leB d p q = decide (a ≤ b) := by
  unfold leB
  rw [hb.1.lt ha.1]
  by_cases h : a ≤ b
  · rw [decide_eq_true h, decide_eq_false (by omega)]; rfl
  · rw [decide_eq_false h, decide_eq_true (by omega)]; rfl

end Go.Proofs.YtpamoleocjdjiaaDoor

namespace Lox
open Go Go.RowKit
set_option linter.unusedVariables false

def INFB : Nat := 9218868437227405312

theorem inf_dec : FloatKind.f64.decode INFB = .infinity false := by decide +kernel

/-- A squared distance: infinite, or a whole number from 0 on. -/
def DV (x : Nat) : Option Int → Prop
  | none => x = INFB
  | some n => Gd 0 x n ∧ 0 ≤ n ∧ n ≤ 1125899906842624

def olt : Option Int → Option Int → Bool
  | none, _ => false
  | some _, none => true
  | some a, some b => decide (a < b)

def omin (a b : Option Int) : Option Int := if olt a b then a else b

theorem DV.num {x : Nat} {n : Int} (h : DV x (some n)) : ∃ s m i, FloatKind.f64.decode x = .number s m i := h.1.1

theorem DV.lt {x y : Nat} {d e : Option Int} (hx : DV x d) (hy : DV y e) : (FloatKind.f64.format.order x y == some .lt) = olt d e := by
  show ((FloatKind.f64.decode x).order (FloatKind.f64.decode y) == some .lt) = _
  cases d with
  | none =>
    have hx : x = INFB := hx
    rw [hx, inf_dec]
    cases e with
    | none => have hy : y = INFB := hy; rw [hy, inf_dec]; decide
    | some b => obtain ⟨s, m, i, e⟩ := hy.num; rw [e]; rfl
  | some a =>
    cases e with
    | none => have hy : y = INFB := hy; obtain ⟨s, m, i, e⟩ := hx.num; rw [hy, inf_dec, e]; rfl
    | some b =>
      have := hx.1.lt hy.1
      exact this

theorem dv_order {x y : Nat} {d e : Option Int} (hx : DV x d) (hy : DV y e) : ∃ o, (FloatKind.f64.decode x).order (FloatKind.f64.decode y) = some o := by
  have hn : ∀ (x : Nat) (d : Option Int), DV x d → (FloatKind.f64.decode x).isNaN = false := fun x d h => by
    cases d with
    | none => have h : x = INFB := h; rw [h, inf_dec]; rfl
    | some n => obtain ⟨s, m, i, e⟩ := h.num; rw [e]; rfl
  have h1 := hn x d hx
  have h2 := hn y e hy
  cases ha : FloatKind.f64.decode x <;> cases hb : FloatKind.f64.decode y <;> simp [Ieee.Datum.order, Ieee.Datum.isNaN, ha, hb] at h1 h2 ⊢

theorem gd_zero {x : Nat} {n : Int} (h : Gd 0 x n) (hz : (FloatKind.f64.decode x).isZero = true) : n = 0 := by
  have hz0 : Gd 0 0 0 := gd0_of_is is_zero
  have h1 := h.eq hz0
  obtain ⟨s, m, i, e⟩ := h.1
  rw [e] at hz
  have hm : m = 0 := by
    cases m with
    | zero => rfl
    | succ m => exact absurd hz (by simp [Ieee.Datum.isZero])
  subst hm
  have hv : vl x = 0 := by unfold vl; rw [e]; simp [dv]
  have h2 := or_eq h.1 hz0.1
  have hv0 : vl 0 = 0 := by rw [is_zero.2]; rfl
  rw [hv, hv0] at h2
  rw [h2] at h1
  simpa using h1

theorem dv_min {x y : Nat} {d e : Option Int} (hx : DV x d) (hy : DV y e) : ∃ r, Extern.MathDim.pick "math.archMin" true .lt #[.float .f64 x, .float .f64 y] = pure (.float .f64 r) ∧ DV r (omin d e) := by
  have hlt := hx.lt hy
  have hni : ∀ (x : Nat) (d : Option Int), DV x d → (FloatKind.f64.decode x == .infinity true) = false ∧ (FloatKind.f64.decode x).isNaN = false := fun x d h => by
    cases d with
    | none => have h : x = INFB := h; rw [h, inf_dec]; exact ⟨by decide, rfl⟩
    | some n => obtain ⟨s, m, i, e⟩ := h.num; rw [e]; exact ⟨rfl, rfl⟩
  obtain ⟨a1, a2⟩ := hni x d hx
  obtain ⟨b1, b2⟩ := hni y e hy
  have key : ∀ a b, FloatKind.f64.decode x = a → FloatKind.f64.decode y = b → Extern.MathDim.pick "math.archMin" true .lt #[.float .f64 x, .float .f64 y] = pure (.float .f64 (if a == .infinity true || b == .infinity true then FloatKind.f64.encode (.infinity true) else if a.isNaN || b.isNaN then 0x7FF8000000000001 else if a.isZero && b.isZero then (if a.neg == true then x else y) else if a.order b == some .lt then x else y)) := by
    rintro a b rfl rfl
    rfl
  have hk := key _ _ rfl rfl
  rw [hk]
  simp only [a1, a2, b1, b2, Bool.or_false, Bool.false_eq_true, if_false]
  by_cases hz : ((FloatKind.f64.decode x).isZero && (FloatKind.f64.decode y).isZero) = true
  · rw [if_pos hz]
    rw [Bool.and_eq_true] at hz
    have hd : d = some 0 := by
      cases d with
      | none => have h : x = INFB := hx; rw [h, inf_dec] at hz; cases hz.1
      | some n => rw [gd_zero hx.1 hz.1]
    have he : e = some 0 := by
      cases e with
      | none => have h : y = INFB := hy; rw [h, inf_dec] at hz; cases hz.2
      | some n => rw [gd_zero hy.1 hz.2]
    subst hd he
    refine ⟨_, rfl, ?_⟩
    have : omin (some 0) (some 0) = some 0 := rfl
    rw [this]
    split
    · exact hx
    · exact hy
  · rw [if_neg hz]
    refine ⟨_, rfl, ?_⟩
    have hlt' : ((FloatKind.f64.decode x).order (FloatKind.f64.decode y) == some .lt) = olt d e := hlt
    rw [hlt']
    unfold omin
    split
    · exact hx
    · exact hy
end Lox
namespace Go.Proofs.YtpamoleocjdjiaaDoor
open Go.RowKit Lox
set_option linter.unusedVariables false

theorem run_frombits (w : World) : (callFunc 30 #[.int .u64 9218868437227405312]).run Tryd.prog w = .ok (.value (.float .f64 INFB)) w := by
  rw [run_callFunc_extern Tryd.func30 (by kernel_rfl) (by kernel_rfl) (by kernel_rfl) (e := Extern.MathFloatBits.float64frombits) (by kernel_rfl)]
  kernel_rfl

set_option maxHeartbeats 400000 in
theorem inf_at (w : World) : Calls Tryd.prog 48 #[.int .i64 1] w fun e w' => e = .returned (.float .f64 INFB) ∧ w = w' := by
  have hf := run_frombits
  go_enter Tryd.func48, Tryd.ntmps48
  go_wp2
  go_ret
  exact ⟨rfl, rfl⟩

theorem run_min (x y : Nat) {d e : Option Int} (hx : DV x d) (hy : DV y e) : ∃ r, DV r (omin d e) ∧ ∀ w : World, (callFunc 67 #[.float .f64 x, .float .f64 y]).run Tryd.prog w = .ok (.value (.float .f64 r)) w := by
  obtain ⟨r, h1, h2⟩ := dv_min hx hy
  refine ⟨r, h2, fun w => ?_⟩
  rw [run_callFunc_extern Tryd.func67 (by kernel_rfl) (by kernel_rfl) (by kernel_rfl) (e := Extern.MathDim.pick "math.archMin" true .lt) (by kernel_rfl), h1]
  rfl

set_option maxHeartbeats 400000 in
theorem min_at (x y : Nat) (d e : Option Int) (w : World) (hx : DV x d) (hy : DV y e) : Calls Tryd.prog 60 #[.float .f64 x, .float .f64 y] w fun e' w' => (∃ r, e' = .returned (.float .f64 r) ∧ DV r (omin d e)) ∧ w = w' := by
  obtain ⟨r, h1, hf⟩ := run_min x y hx hy
  have H1 := Lib.hid h1
  clear h1 hx hy
  go_enter Tryd.func60, Tryd.ntmps60
  go_wp2
  go_ret
  exact ⟨⟨r, rfl, H1.out⟩, rfl⟩
end Go.Proofs.YtpamoleocjdjiaaDoor

namespace Lox.KB
variable {α : Type}

theorem ins_each (le : Nat → α → α → Bool) (dims : Nat) (hd : 0 < dims) (p : α) : ∀ (t : T α) (d : Nat), d < dims → t.Each (fun _ d => d < dims) → (ins le dims p d t).Each (fun _ d => d < dims) := by
  intro t
  induction t with
  | nil => intro d hdd _; exact ⟨hdd, trivial, trivial⟩
  | node q pl l r ihl ihr =>
    intro d hdd h
    unfold ins
    split
    · exact ⟨h.1, ihl _ (Nat.mod_lt _ hd) h.2.1, h.2.2⟩
    · exact ⟨h.1, h.2.1, ihr _ (Nat.mod_lt _ hd) h.2.2⟩

theorem ins_perm (le : Nat → α → α → Bool) (dims : Nat) (p : α) : ∀ (t : T α) (d : Nat), (ins le dims p d t).all.Perm (p :: t.all) := by
  intro t
  induction t with
  | nil => intro d; exact List.Perm.refl _
  | node q pl l r ihl ihr =>
    intro d
    unfold ins
    split
    · simp only [T.all]
      exact (ihl _).append_right _
    · simp only [T.all]
      have h := (ihr ((pl + 1) % dims)).cons q
      have h2 := h.append_left l.all
      refine h2.trans ?_
      have h3 : (q :: p :: r.all).Perm (p :: q :: r.all) := List.Perm.swap _ _ _
      refine (h3.append_left l.all).trans ?_
      exact List.perm_middle

theorem inss_each (le : Nat → α → α → Bool) (dims : Nat) (hd : 0 < dims) : ∀ (ps : List α) (t : T α), t.Each (fun _ d => d < dims) → (inss le dims t ps).Each (fun _ d => d < dims) := by
  intro ps
  induction ps with
  | nil => intro t h; exact h
  | cons p ps ih => intro t h; exact ih _ (ins_each le dims hd p t 0 hd h)

theorem inss_perm (le : Nat → α → α → Bool) (dims : Nat) : ∀ (ps : List α) (t : T α), (inss le dims t ps).all.Perm (t.all ++ ps) := by
  intro ps
  induction ps with
  | nil => intro t; rw [List.append_nil]; exact List.Perm.refl _
  | cons p ps ih =>
    intro t
    refine (ih (ins le dims p 0 t)).trans ?_
    refine ((ins_perm le dims p t 0).append_right ps).trans ?_
    exact (List.perm_middle (l₁ := t.all) (l₂ := ps) (a := p)).symm

theorem inss_snoc (le : Nat → α → α → Bool) (dims : Nat) (t : T α) (ps : List α) (p : α) : inss le dims t (ps ++ [p]) = ins le dims p 0 (inss le dims t ps) := by
  unfold inss
  rw [List.foldl_append]
  rfl
end Lox.KB

namespace Lox.KB
variable {α : Type}

def oltI : Option Int → Option Int → Bool
  | none, _ => false
  | some _, none => true
  | some a, some b => decide (a < b)

def ominI (a b : Option Int) : Option Int := if oltI a b then a else b

/-- search: z x d is x's number on plane d, sq the squared distance from q. -/
def srch (z : α → Nat → Int) (zq : Nat → Int) (sq : α → Int) : T α → Option Int → Option α × Option Int
  | .nil, _ => (none, none)
  | .node p pl l r, D =>
    let c := zq pl - z p pl
    let D1 := ominI D (some (sq p))
    if c ≤ 0 then
      let a := srch z zq sq l D1
      let s1 := if oltI a.2 D1 then a else (some p, D1)
      if oltI (some (c * c)) s1.2 then
        let b := srch z zq sq r s1.2
        if oltI b.2 s1.2 then b else s1
      else s1
    else
      let a := srch z zq sq r D1
      let s1 := if oltI a.2 D1 then a else (some p, D1)
      if oltI (some (c * c)) s1.2 then
        let b := srch z zq sq l s1.2
        if oltI b.2 s1.2 then b else s1
      else s1

/-- a is at most b. -/
def oleI (a b : Option Int) : Prop := oltI b a = false

theorem oleI_refl (a : Option Int) : oleI a a := by cases a <;> simp [oleI, oltI]
theorem oleI_trans {a b c : Option Int} (h : oleI a b) (k : oleI b c) : oleI a c := by
  cases a <;> cases b <;> cases c <;> simp [oleI, oltI] at h k ⊢
  omega
theorem oltI_le {a b : Option Int} (h : oltI a b = true) : oleI a b := by
  cases a <;> cases b <;> simp [oleI, oltI] at h ⊢
  omega
theorem oltI_trans {a b c : Option Int} (h : oleI a b) (k : oltI b c = true) : oltI a c = true := by
  cases a <;> cases b <;> cases c <;> simp [oleI, oltI] at h k ⊢
  omega
theorem ominI_le (a b : Option Int) : oleI (ominI a b) a ∧ oleI (ominI a b) b ∧ (oltI (ominI a b) a = true → ominI a b = b) := by
  unfold ominI
  by_cases h : oltI a b = true
  · rw [if_pos h]
    refine ⟨oleI_refl _, oltI_le h, fun k => ?_⟩
    cases a <;> simp [oltI] at k
  · rw [if_neg h]
    exact ⟨by simpa [oleI] using h, oleI_refl _, fun _ => rfl⟩

/-- What a search tells: at most D, at most each point's; and, if it is less than D, that of the point that it names. -/
structure Srch (sq : α → Int) (l : List α) (D : Option Int) (s : Option α × Option Int) : Prop where
  le : oleI s.2 D
  all : ∀ x ∈ l, oleI s.2 (some (sq x))
  is : oltI s.2 D = true → ∃ x ∈ l, s.1 = some x ∧ s.2 = some (sq x)

/-- What a search below a node tells, whatever D is. -/
def SubI (sq : α → Int) (l : List α) (D : Option Int) (a : Option α × Option Int) : Prop :=
  (∀ x ∈ l, oleI a.2 (some (sq x))) ∧ (oltI a.2 D = true → ∃ x ∈ l, a.1 = some x ∧ a.2 = some (sq x))

theorem oleI_of_not {a b c : Option Int} (h : ¬ oltI a b = true) (k : oleI a c) : oleI b c := oleI_trans (a := b) (b := a) (by simpa [oleI] using h) k

theorem srch_pick {sq : α → Int} {l m : List α} {D : Option Int} {s a : Option α × Option Int} (h : Srch sq l D s) (ha : SubI sq m s.2 a) : Srch sq (l ++ m) D (if oltI a.2 s.2 then a else s) := by
  by_cases hc : oltI a.2 s.2 = true
  · rw [if_pos hc]
    refine ⟨oleI_trans (oltI_le hc) h.le, fun x hx => ?_, fun _ => ?_⟩
    · rcases List.mem_append.1 hx with hx | hx
      · exact oleI_trans (oltI_le hc) (h.all x hx)
      · exact ha.1 x hx
    · obtain ⟨x, hx, e⟩ := ha.2 hc
      exact ⟨x, List.mem_append.2 (.inr hx), e⟩
  · rw [if_neg hc]
    refine ⟨h.le, fun x hx => ?_, fun hk => ?_⟩
    · rcases List.mem_append.1 hx with hx | hx
      · exact h.all x hx
      · exact oleI_of_not hc (ha.1 x hx)
    · obtain ⟨x, hx, e⟩ := h.is hk
      exact ⟨x, List.mem_append.2 (.inl hx), e⟩

theorem srch_cut {sq : α → Int} {l m : List α} {D : Option Int} {s : Option α × Option Int} (h : Srch sq l D s) (hm : ∀ x ∈ m, oleI s.2 (some (sq x))) : Srch sq (l ++ m) D s := by
  refine ⟨h.le, fun x hx => ?_, fun hk => ?_⟩
  · rcases List.mem_append.1 hx with hx | hx
    · exact h.all x hx
    · exact hm x hx
  · obtain ⟨x, hx, e⟩ := h.is hk
    exact ⟨x, List.mem_append.2 (.inl hx), e⟩

theorem Srch.sub {sq : α → Int} {l m : List α} {D : Option Int} {s : Option α × Option Int} (h : Srch sq l D s) (hm : ∀ x, x ∈ m ↔ x ∈ l) : SubI sq m D s :=
  ⟨fun x hx => h.all x ((hm x).1 hx), fun hk => by obtain ⟨x, hx, e⟩ := h.is hk; exact ⟨x, (hm x).2 hx, e⟩⟩

theorem sq_mono {a b : Int} (h0 : 0 ≤ a) (h : a ≤ b) : a * a ≤ b * b := Int.mul_le_mul h h h0 (by omega)

theorem srch_ok (le : Nat → α → α → Bool) (dims : Nat) (z : α → Nat → Int) (zq : Nat → Int) (sq : α → Int) (G : α → Prop) (hle : ∀ d x p, G x → G p → d < dims → (le d x p = true ↔ z x d ≤ z p d)) (hsq : ∀ x d, G x → d < dims → (zq d - z x d) * (zq d - z x d) ≤ sq x) :
    ∀ (t : T α) (D : Option Int), (∀ x ∈ t.all, G x) → t.Ord le → t.Each (fun _ d => d < dims) → SubI sq t.all D (srch z zq sq t D) := by
  intro t
  induction t with
  | nil => intro D _ _ _; exact ⟨(fun x hx => by cases hx), (fun h => by cases h)⟩
  | node p pl l r ihl ihr =>
    intro D hG hO hE
    have gp : G p := hG p (by simp [T.all])
    have gl : ∀ x ∈ l.all, G x := fun x hx => hG x (by simp [T.all, hx])
    have gr : ∀ x ∈ r.all, G x := fun x hx => hG x (by simp [T.all, hx])
    obtain ⟨h1, h2, h3, h4⟩ := hO
    obtain ⟨e1, e2, e3⟩ := hE
    obtain ⟨m1, m2, m3⟩ := ominI_le D (some (sq p))
    have s0 : Srch sq [p] D (some p, ominI D (some (sq p))) := ⟨m1, fun x hx => by rw [List.mem_singleton.1 hx]; exact m2, fun h => ⟨p, List.mem_singleton.2 rfl, rfl, m3 h⟩⟩
    simp only [srch]
    by_cases hc : zq pl - z p pl ≤ 0
    · rw [if_pos hc]
      have s1 := srch_pick s0 (ihl (ominI D (some (sq p))) gl h3 e2)
      generalize (if oltI (srch z zq sq l (ominI D (some (sq p)))).2 (some p, ominI D (some (sq p))).2 = true then srch z zq sq l (ominI D (some (sq p))) else (some p, ominI D (some (sq p)))) = s at s1
      have hmem : ∀ x, x ∈ (T.node p pl l r).all ↔ x ∈ ([p] ++ l.all) ++ r.all := fun x => by simp [T.all]; constructor <;> (rintro (h | h | h) <;> simp [h])
      by_cases hk : oltI (some ((zq pl - z p pl) * (zq pl - z p pl))) s.2 = true
      · rw [if_pos hk]
        exact (srch_pick s1 (ihr s.2 gr h4 e3)).sub hmem
      · rw [if_neg hk]
        refine (srch_cut s1 fun x hx => ?_).sub hmem
        refine oleI_of_not hk ?_
        have hx2 : ¬ z x pl ≤ z p pl := fun h => by have := h2 x hx; rw [(hle pl x p (gr x hx) gp e1).2 h] at this; cases this
        have h5 := hsq x pl (gr x hx) e1
        have h6 := sq_mono (a := z p pl - zq pl) (b := z x pl - zq pl) (by omega) (by omega)
        have h7 : (zq pl - z p pl) * (zq pl - z p pl) = (z p pl - zq pl) * (z p pl - zq pl) := by rw [← Int.neg_mul_neg]; congr 1 <;> omega
        have h8 : (zq pl - z x pl) * (zq pl - z x pl) = (z x pl - zq pl) * (z x pl - zq pl) := by rw [← Int.neg_mul_neg]; congr 1 <;> omega
        simp only [oleI, oltI, decide_eq_false_iff_not]
        omega
    · rw [if_neg hc]
      have s1 := srch_pick s0 (ihr (ominI D (some (sq p))) gr h4 e3)
      generalize (if oltI (srch z zq sq r (ominI D (some (sq p)))).2 (some p, ominI D (some (sq p))).2 = true then srch z zq sq r (ominI D (some (sq p))) else (some p, ominI D (some (sq p)))) = s at s1
      have hmem : ∀ x, x ∈ (T.node p pl l r).all ↔ x ∈ ([p] ++ r.all) ++ l.all := fun x => by simp [T.all]; constructor <;> (rintro (h | h | h) <;> simp [h])
      by_cases hk : oltI (some ((zq pl - z p pl) * (zq pl - z p pl))) s.2 = true
      · rw [if_pos hk]
        exact (srch_pick s1 (ihl s.2 gl h3 e2)).sub hmem
      · rw [if_neg hk]
        refine (srch_cut s1 fun x hx => ?_).sub hmem
        refine oleI_of_not hk ?_
        have hx2 := (hle pl x p (gl x hx) gp e1).1 (h1 x hx)
        have h5 := hsq x pl (gl x hx) e1
        have h6 := sq_mono (a := zq pl - z p pl) (b := zq pl - z x pl) (by omega) (by omega)
        simp only [oleI, oltI, decide_eq_false_iff_not]
        omega

/-- Inserting keeps the order. -/
theorem ins_ord (le : Nat → α → α → Bool) (dims : Nat) (p : α) : ∀ (t : T α) (d : Nat), t.Ord le → (ins le dims p d t).Ord le := by
  intro t
  induction t with
  | nil => intro d _; exact ⟨(fun x hx => by cases hx), (fun x hx => by cases hx), trivial, trivial⟩
  | node q pl l r ihl ihr =>
    intro d h
    obtain ⟨h1, h2, h3, h4⟩ := h
    unfold ins
    split
    · rename_i hc
      refine ⟨fun x hx => ?_, h2, ihl _ h3, h4⟩
      rcases List.mem_cons.1 ((ins_perm le dims p l ((pl + 1) % dims)).mem_iff.1 hx) with rfl | hx
      · exact hc
      · exact h1 x hx
    · rename_i hc
      refine ⟨h1, fun x hx => ?_, h3, ihr _ h4⟩
      rcases List.mem_cons.1 ((ins_perm le dims p r ((pl + 1) % dims)).mem_iff.1 hx) with rfl | hx
      · simpa using hc
      · exact h2 x hx

theorem inss_ord (le : Nat → α → α → Bool) (dims : Nat) : ∀ (ps : List α) (t : T α), t.Ord le → (inss le dims t ps).Ord le := by
  intro ps
  induction ps with
  | nil => intro t h; exact h
  | cons p ps ih => intro t h; exact ih _ (ins_ord le dims p t 0 h)

/-- From no distance on, the search finds the least one. -/
theorem srch_least (le : Nat → α → α → Bool) (dims : Nat) (z : α → Nat → Int) (zq : Nat → Int) (sq : α → Int) (G : α → Prop) (hle : ∀ d x p, G x → G p → d < dims → (le d x p = true ↔ z x d ≤ z p d)) (hsq : ∀ x d, G x → d < dims → (zq d - z x d) * (zq d - z x d) ≤ sq x)
    (t : T α) (hG : ∀ x ∈ t.all, G x) (ho : t.Ord le) (he : t.Each (fun _ d => d < dims)) {y : α} (hy : y ∈ t.all) : ∃ x ∈ t.all, (srch z zq sq t none).1 = some x ∧ (srch z zq sq t none).2 = some (sq x) ∧ ∀ y ∈ t.all, sq x ≤ sq y := by
  obtain ⟨h1, h2⟩ := srch_ok le dims z zq sq G hle hsq t none hG ho he
  have h3 := h1 y hy
  have h4 : oltI (srch z zq sq t none).2 none = true := by
    cases hs : (srch z zq sq t none).2 with
    | none => rw [hs] at h3; simp [oleI, oltI] at h3
    | some a => rfl
  obtain ⟨x, hx, e1, e2⟩ := h2 h4
  refine ⟨x, hx, e1, e2, fun y hy => ?_⟩
  have := h1 y hy
  rw [e2] at this
  simpa [oleI, oltI] using this
end Lox.KB

namespace Lox
open Go Go.RowKit
set_option linter.unusedVariables false

theorem gd_unique {x : Nat} {n m : Int} (h : Gd 0 x n) (k : Gd 0 x m) : n = m := by
  have h1 := h.eq h
  have h2 := h.eq k
  rw [decide_eq_true rfl] at h1
  rw [h1] at h2
  exact of_decide_eq_true h2.symm

open Classical in
/-- The whole number that a word stands for. -/
noncomputable def zi (x : Nat) : Int := if h : ∃ n, Wh x n then Classical.choose h else 0

theorem zi_wh {x : Nat} (h : ∃ n, Wh x n) : Wh x (zi x) := by
  unfold zi
  rw [dif_pos h]
  exact Classical.choose_spec h

theorem zi_eq {x : Nat} {n : Int} (h : Wh x n) : zi x = n := gd_unique (zi_wh ⟨n, h⟩).1 h.1

/-- The squared distance, over the first k coordinates. -/
noncomputable def sqx (xs ys : List Nat) : Nat → Int
  | 0 => 0
  | k + 1 => sqx xs ys k + (zi (xs.getD k 0) - zi (ys.getD k 0)) * (zi (xs.getD k 0) - zi (ys.getD k 0))

theorem sqx_comm (xs ys : List Nat) (k : Nat) : sqx xs ys k = sqx ys xs k := by
  induction k with
  | zero => rfl
  | succ k ih =>
    simp only [sqx, ih]
    have : (zi (xs.getD k 0) - zi (ys.getD k 0)) * (zi (xs.getD k 0) - zi (ys.getD k 0)) = (zi (ys.getD k 0) - zi (xs.getD k 0)) * (zi (ys.getD k 0) - zi (xs.getD k 0)) := by rw [← Int.neg_mul_neg]; congr 1 <;> omega
    rw [this]

theorem sq_nn (a : Int) : 0 ≤ a * a := by
  rcases Int.le_total 0 a with h | h
  · exact Int.mul_nonneg h h
  · exact Int.mul_nonneg_of_nonpos_of_nonpos h h

theorem sq_le42 {a : Int} (h : a.natAbs ≤ 2097152) : a * a ≤ 4398046511104 := by
  have e : ((a.natAbs * a.natAbs : Nat) : Int) = a * a := Int.natAbs_mul_self
  have h2 : a.natAbs * a.natAbs ≤ 2097152 * 2097152 := Nat.mul_le_mul h h
  omega

theorem mem_getD {xs : List Nat} {k : Nat} (h : k < xs.length) : xs.getD k 0 ∈ xs := by simp [h]

theorem sqx_nn (xs ys : List Nat) (k : Nat) : 0 ≤ sqx xs ys k := by
  induction k with
  | zero => exact Int.le_refl _
  | succ k ih =>
    have := sq_nn (zi (xs.getD k 0) - zi (ys.getD k 0))
    simp only [sqx]; omega

theorem sqx_step (xs ys : List Nat) (k m : Nat) (h : k ≤ m) : sqx xs ys k ≤ sqx xs ys m := by
  induction m with
  | zero => obtain rfl : k = 0 := by omega
            exact Int.le_refl _
  | succ m ih =>
    rcases Nat.lt_or_ge k (m + 1) with h1 | h1
    · have h2 := ih (by omega)
      have := sq_nn (zi (xs.getD m 0) - zi (ys.getD m 0))
      simp only [sqx]; omega
    · obtain rfl : k = m + 1 := by omega
      exact Int.le_refl _

theorem sqx_ge (xs ys : List Nat) (d m : Nat) (h : d < m) : (zi (xs.getD d 0) - zi (ys.getD d 0)) * (zi (xs.getD d 0) - zi (ys.getD d 0)) ≤ sqx xs ys m := by
  have h1 := sqx_step xs ys (d + 1) m h
  have h2 := sqx_nn xs ys d
  simp only [sqx] at h1
  omega

theorem sqx_le (xs ys : List Nat) (hx : ∀ x ∈ xs, ∃ n, Wh x n) (hy : ∀ y ∈ ys, ∃ n, Wh y n) (k : Nat) (hkx : k ≤ xs.length) (hky : k ≤ ys.length) : sqx xs ys k ≤ 4398046511104 * k := by
  induction k with
  | zero => simp [sqx]
  | succ k ih =>
    have h1 := ih (by omega) (by omega)
    have hxk : ∃ n, Wh (xs.getD k 0) n := hx _ (mem_getD (by omega))
    have hyk : ∃ n, Wh (ys.getD k 0) n := hy _ (mem_getD (by omega))
    have ha := (zi_wh hxk).2
    have hb := (zi_wh hyk).2
    have := sq_le42 (a := zi (xs.getD k 0) - zi (ys.getD k 0)) (by omega)
    simp only [sqx]
    omega
end Lox
namespace Go.Proofs.YtpamoleocjdjiaaDoor
open Go.RowKit Lox
set_option linter.unusedVariables false
attribute [local go_sem] run_store_flt run_store_fn

theorem TP.gr_iff {p : TP} : p.Gr ↔ ∀ x ∈ p.xs, ∃ n, Wh x n := by
  refine ⟨fun h x hx => ?_, TP.gr_of⟩
  obtain ⟨i, hi, rfl⟩ := List.mem_iff_getElem.1 hx
  have := h i hi
  have e : p.n i = p.xs[i] := by simp [TP.n, hi]
  rw [e] at this
  exact this

/-- One step of the sum. -/
theorem sq_run {x y s : Nat} {a b t : Int} (hx : Wh x a) (hy : Wh y b) (hs : Gd 0 s t) (h0 : 0 ≤ t) (ht : t ≤ 1125899906842624) : ∃ d m r, (∀ (P : Program) (T : TypeId) (w : World), (binOp .sub T (.float .f64 x) (.float .f64 y)).run P w = .ok (.float .f64 d) w) ∧ (∀ (P : Program) (T : TypeId) (w : World), (binOp .mul T (.float .f64 d) (.float .f64 d)).run P w = .ok (.float .f64 m) w) ∧
    (∀ (P : Program) (T : TypeId) (w : World), (binOp .add T (.float .f64 s) (.float .f64 m)).run P w = .ok (.float .f64 r) w) ∧ Gd 0 r (t + (a - b) * (a - b)) := by
  have hab : (a - b).natAbs ≤ 2097152 := by have := hx.2; have := hy.2; omega
  obtain ⟨d, hd, gd⟩ := Gd.sub hx.1 hy.1 (by omega) (by omega)
  have h42 := sq_le42 hab
  have hnn := sq_nn (a - b)
  have hmul : ∃ m, Ieee.double.mul d d = some m ∧ Gd 0 m ((a - b) * (a - b)) := by
    have e : ((a - b : Int) : Rat) * p2 (-((0 : Nat) : Int)) = ((a - b : Int) : Rat) := by
      have : (-((0 : Nat) : Int)) = 0 := rfl
      rw [this, p2_zero, Rat.mul_one]
    have g1 : Is d ((a - b : Int) : Rat) := by have h := gd; unfold Gd at h; rw [e] at h; exact h
    have h := Is.mul g1 g1
    rw [← Rat.intCast_mul] at h
    obtain ⟨m, hm, im⟩ := h (rep_whole _ (by omega)) (by
      have h1 := int_lt_p2 ((a - b) * (a - b)) 53 (by have : (2 ^ 53 : Nat) = 9007199254740992 := by decide
                                                      omega)
      exact rlt_le h1 (p2_le (by omega)))
    exact ⟨m, hm, gd0_of_is im⟩
  obtain ⟨m, hm, gm⟩ := hmul
  obtain ⟨r, hr, gr⟩ := Gd.add hs gm (by omega) (by omega)
  exact ⟨d, m, r, fun P T w => run_float_arith w .sub T .f64 _ _ d hd, fun P T w => run_float_arith w .mul T .f64 _ _ m hm, fun P T w => run_float_arith w .add T .f64 _ _ r hr, gr⟩

theorem TP.Ok.drewN {w : World} {dims : Nat} {p : TP} (h : p.Ok w dims) (m : Nat) : p.Ok (w.drewN m) dims := h.mod0 ((Mod.refl _ _).drewN m)

set_option maxHeartbeats 4000000 in
theorem square_at (w : World) (dims : Nat) (p q : TP) (hp : p.Ok w dims) (hq : q.Ok w dims) (gp : p.Gr) (gq : q.Gr) (hdm : dims ≤ 4) :
    Calls Tryd.prog 15 #[.slice p.A dims p.c, .slice q.A dims q.c] w fun e w' => (∃ r, e = .returned (.float .f64 r) ∧ Gd 0 r (sqx p.xs q.xs dims)) ∧ ∃ m, w' = w.drewN m := by
  have HH := Lib.hid (And.intro hp (And.intro hq (And.intro (TP.gr_iff.1 gp) (TP.gr_iff.1 gq))))
  have hz0 : Gd 0 0 0 := gd0_of_is is_zero
  have HZ0 := Lib.hid hz0
  clear hp hq gp gq hz0
  go_enter Tryd.func15, Tryd.ntmps15
  go_wp2
  go_loopw [5, 10] (fun s i wr => ∃ k b m : Nat, k ≤ dims ∧ i = .int .i64 k ∧ s = .float .f64 b ∧ wr = w.drewN m ∧ Hid (Gd 0 b (sqx p.xs q.xs k))) (fun _ i _ => dims - (intOf i).toNat)
  case atStart => exact ⟨0, 0, 0, Nat.zero_le _, rfl, rfl, rfl, HZ0.out⟩
  case round =>
    obtain ⟨k, b, m, hk, rfl, rfl, rfl, HR⟩ := hrel
    by_cases hlt : k < dims
    · obtain ⟨l1, s1⟩ := HH.out.1
      obtain ⟨l2, s2⟩ := HH.out.2.1
      rw [l1] at s1
      rw [l2] at s2
      obtain ⟨b1, o1, v1, e1, f1, c1⟩ := s1.at1 hlt
      obtain ⟨b2, o2, v2, e2, f2, c2⟩ := s2.at1 hlt
      rw [flts_getD (by omega)] at f1 f2
      cases f1
      cases f2
      have hxk : ∃ n, Wh (p.xs.getD k 0) n := HH.out.2.2.1 _ (mem_getD (by omega))
      have hyk : ∃ n, Wh (q.xs.getD k 0) n := HH.out.2.2.2 _ (mem_getD (by omega))
      have hle := sqx_le p.xs q.xs HH.out.2.2.1 HH.out.2.2.2 k (by omega) (by omega)
      obtain ⟨d, mm, r, r1, r2, r3, hg⟩ := sq_run (zi_wh hxk) (zi_wh hyk) HR.out (sqx_nn _ _ _) (by omega)
      have HG : Hid (Gd 0 r (sqx p.xs q.xs (k + 1))) := hg
      rw [e1, e2]
      clear hg hle hxk hyk l1 l2 s1 s2 e1 e2
      generalize p.xs.getD k 0 = x at c1 r1
      generalize q.xs.getD k 0 = y at c2 r1
      have i0 : (0 : Int) ≤ k := by omega
      have i1 : (k : Int) < dims := by omega
      go_wp2
      go_quiet (fail)
      go_wp2
      go_roundw
      case rel => exact ⟨k + 1, r, m + nq, by omega, by go_num, rfl, by simp [World.drewN], HG⟩
      case measure => simp [intOf]; omega
    · obtain rfl : k = dims := by omega
      go_wp2
      go_ret
      exact ⟨⟨b, rfl, HR.out⟩, m, rfl⟩
end Go.Proofs.YtpamoleocjdjiaaDoor
