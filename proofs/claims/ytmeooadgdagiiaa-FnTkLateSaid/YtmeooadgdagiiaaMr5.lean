/- Steps of a proof, one behind another: Whole numbers as float numbers: what is equal to itself without its broken part. The walks of Trunc, Grid, SamePoint, floats, ints over points of whole numbers. Which function a method of the k-d tree's doors is. The walk of Partition over a window of the array of points. The walks of the k-d tree's list of points whose pivots are picked by numbers: Len, Index, Slice, Pivot. The walks of the copies: floats, ints; SamePoint. Conditions: rows of at most 2^40 numbers. The walks of the laws' looks at points: zzFits4, tSome, SamePoint. Conditions: as each theorem says. -/
import Derived.Test.YtmeooadgdagiiaaMr4
import Derived.Deep.QuietTactic
import Derived.Maps.AppendAt
import Derived.IntWalk

namespace Lox
open Go
set_option linter.unusedVariables false

/-- The word x stands for a whole number within 2^20. -/
def Wh (x : Nat) (n : Int) : Prop := Gd 0 x n ∧ n.natAbs ≤ 1048576

theorem gd0_of_is {x : Nat} {n : Int} (h : Is x (n : Rat)) : Gd 0 x n := by
  have := Gd.of_int h 0
  rw [Int.pow_zero, Int.mul_one] at this
  exact this

theorem two20 : FloatKind.f64.nearest 1048576 = 4697254411347427328 := by decide +kernel
theorem two20n : FloatKind.f64.nearest (-1048576) = Op.negFloat .f64 4697254411347427328 := by decide +kernel
theorem is_two20 : Is 4697254411347427328 ((1048576 : Int) : Rat) := by rw [← two20]; exact nearest_is _ (by decide)
theorem is_two20n : Is (Op.negFloat .f64 4697254411347427328) ((-1048576 : Int) : Rat) := by rw [← two20n]; exact nearest_is _ (by decide)
theorem zero0 : FloatKind.f64.nearest 0 = 0 := by decide +kernel
theorem is_zero : Is 0 ((0 : Int) : Rat) := by rw [← zero0]; exact nearest_is _ (by decide)

theorem cut_zero (neg : Bool) (n drop : Nat) : Ieee.Toward.zero.cut neg n drop = n / 2 ^ drop := by
  unfold Ieee.Toward.cut
  simp only [Nat.one_shiftLeft, Bool.toNat_false, Nat.add_zero]
  rcases Nat.le_total drop (n.log2 + 2) with h | h
  · rw [Nat.min_eq_left h]
  · rw [Nat.min_eq_right h]
    have h1 : n < 2 ^ (n.log2 + 2) := by
      have := Nat.lt_log2_self (n := n)
      have h2 : 2 ^ (n.log2 + 1) ≤ 2 ^ (n.log2 + 2) := Nat.pow_le_pow_right (by decide) (by omega)
      omega
    have h2 : 2 ^ (n.log2 + 2) ≤ 2 ^ drop := Nat.pow_le_pow_right (by decide) h
    rw [Nat.div_eq_of_lt h1, Nat.div_eq_of_lt (by omega)]

theorem trunc_le (m : Nat) (i : Int) : (((m <<< i.toNat) / 2 ^ (-i).toNat : Nat) : Rat) ≤ (m : Rat) * p2 i := by
  rcases Int.le_total 0 i with h | h
  · have e : (-i).toNat = 0 := by omega
    rw [e, Nat.pow_zero, Nat.div_one, Nat.shiftLeft_eq, Rat.natCast_mul, p2_toNat h]
    exact Rat.le_refl
  · have e : i.toNat = 0 := by omega
    rw [e, Nat.shiftLeft_zero]
    have h1 : m / 2 ^ (-i).toNat * 2 ^ (-i).toNat ≤ m := Nat.div_mul_le_self _ _
    have h2 : ((m / 2 ^ (-i).toNat : Nat) : Rat) * ((2 ^ (-i).toNat : Nat) : Rat) ≤ (m : Rat) := by
      rw [← Rat.natCast_mul]; exact Rat.natCast_le_natCast.2 h1
    rw [← p2_toNat (i := -i) (by omega)] at h2
    have h3 := Rat.mul_le_mul_of_nonneg_right h2 (Rat.le_of_lt (p2_pos i))
    have h4 : p2 (-i) * p2 i = 1 := by rw [← p2_add, ← p2_zero]; congr 1; omega
    rw [Rat.mul_assoc, h4, Rat.mul_one] at h3
    exact h3

theorem trunc_wh {x : Nat} (hx : Fw x) (hb : (vl x).abs ≤ ((1048576 : Nat) : Rat)) (he : FloatKind.f64.format.order x (FloatKind.f64.encode ((FloatKind.f64.decode x).integral .zero)) = some .eq) : ∃ n, Wh x n := by
  obtain ⟨s, m, i, hd⟩ := hx
  have hx : Fw x := ⟨s, m, i, hd⟩
  have hvx : (vl x).abs = (m : Rat) * p2 i := by unfold vl; rw [hd, dv_abs]
  obtain ⟨K, hK⟩ : ∃ K, K = (m <<< i.toNat) / 2 ^ (-i).toNat := ⟨_, rfl⟩
  have hKm : (K : Rat) ≤ ((1048576 : Nat) : Rat) := by
    rw [hK]
    have := trunc_le m i
    rw [hvx] at hb
    exact Rat.le_trans this hb
  have hK2 : K ≤ 1048576 := Rat.natCast_le_natCast.1 hKm
  have hint : (FloatKind.f64.decode x).integral .zero = .number s K 0 := by
    rw [hd]
    unfold Ieee.Datum.integral
    dsimp only
    rw [cut_zero, hK]
  rw [hint] at he
  obtain ⟨n, hn⟩ : ∃ n : Int, n = if s then -(K : Int) else (K : Int) := ⟨_, rfl⟩
  have hnb : n.natAbs = K := by rw [hn]; cases s <;> simp
  have ha : (n : Rat) = dv (.number s K 0) := by
    unfold dv sg
    dsimp only
    rw [p2_zero, Rat.mul_one, hn]
    cases s
    · simp [Rat.one_mul]; rfl
    · simp [Rat.intCast_neg, Rat.neg_mul, Rat.one_mul]; rfl
  have hlt : (n : Rat).abs < p2 1000 := by
    have h1 := int_lt_p2 n 53 (by have : (2 ^ 53 : Nat) = 9007199254740992 := by decide
                                  omega)
    exact rlt_le h1 (p2_le (by omega))
  obtain ⟨h1, -, h3⟩ := write_ok s K 0 _ ha hlt
  have hy : Fw (Ieee.double.write (.number s K 0)) := h1
  have hv := h3 (rep_whole n (by omega))
  have he2 := or_eq hx hy
  have he3 : FloatKind.f64.format.order x (Ieee.double.write (.number s K 0)) = some .eq := he
  rw [he3] at he2
  have he4 : vl x = vl (Ieee.double.write (.number s K 0)) := of_decide_eq_true he2.symm
  rw [hv] at he4
  exact ⟨n, gd0_of_is ⟨hx, he4⟩, by omega⟩

theorem order_num_fw {x y : Nat} {o : Ordering} (hy : Fw y) (h : FloatKind.f64.format.order x y = some o) (hinf : FloatKind.f64.decode x ≠ .infinity false ∧ FloatKind.f64.decode x ≠ .infinity true) : Fw x := by
  have hn := Num.of_order h
  unfold Num at hn
  unfold Fw Fnt
  cases hd : FloatKind.f64.decode x with
  | number s m i => exact ⟨s, m, i, rfl⟩
  | infinity s => cases s; exact absurd hd hinf.1; exact absurd hd hinf.2
  | nan s t => rw [hd] at hn; simp [Ieee.Datum.isNaN] at hn

/-- The look at a number that the laws take: within 2^20 both ways, and equal to itself without its broken part. -/
theorem whole_of_look {x : Nat} (h1 : (FloatKind.f64.format.order x (Op.negFloat .f64 4697254411347427328) == some .gt || FloatKind.f64.format.order x (Op.negFloat .f64 4697254411347427328) == some .eq) = true)
    (h2 : (FloatKind.f64.format.order x 4697254411347427328 == some .lt || FloatKind.f64.format.order x 4697254411347427328 == some .eq) = true)
    (h3 : FloatKind.f64.format.order x (FloatKind.f64.encode ((FloatKind.f64.decode x).integral .zero)) = some .eq) : ∃ n, Wh x n := by
  have hinf : FloatKind.f64.decode x ≠ .infinity false ∧ FloatKind.f64.decode x ≠ .infinity true := by
    constructor
    · intro hd
      have e : FloatKind.f64.format.order x 4697254411347427328 = some .gt := by
        show (FloatKind.f64.decode x).order (FloatKind.f64.decode 4697254411347427328) = _
        obtain ⟨s, m, i, hc⟩ := is_two20.1
        rw [hd, hc]; rfl
      rw [e] at h2
      revert h2; decide
    · intro hd
      have e : FloatKind.f64.format.order x (Op.negFloat .f64 4697254411347427328) = some .lt := by
        show (FloatKind.f64.decode x).order (FloatKind.f64.decode (Op.negFloat .f64 4697254411347427328)) = _
        obtain ⟨s, m, i, hc⟩ := is_two20n.1
        rw [hd, hc]; rfl
      rw [e] at h1
      revert h1; decide
  have hx : Fw x := by
    cases ho : FloatKind.f64.format.order x 4697254411347427328 with
    | none => rw [ho] at h2; exact absurd h2 (by decide)
    | some o => exact order_num_fw is_two20.1 ho hinf
  rw [or_ge hx is_two20n.1, is_two20n.2] at h1
  rw [or_le hx is_two20.1, is_two20.2] at h2
  have h1 := of_decide_eq_true h1
  have h2 := of_decide_eq_true h2
  refine trunc_wh hx ?_ h3
  rw [abs_le_iff]
  have e1 : ((1048576 : Int) : Rat) = ((1048576 : Nat) : Rat) := rfl
  have e2 : ((-1048576 : Int) : Rat) = -((1048576 : Nat) : Rat) := by rw [← e1, ← Rat.intCast_neg]
  rw [e2] at h1
  rw [e1] at h2
  exact ⟨h1, h2⟩
end Lox

namespace Go.Proofs.Ytmeooadgdagiiaa
open Go.RowKit Lox
set_option linter.unusedVariables false

/-- A number without its broken part. -/
def trW (x : Nat) : Nat := FloatKind.f64.encode ((FloatKind.f64.decode x).integral .zero)

/-- A point that came in. -/
def TP.Rd (w : World) (p : TP) : Prop := Sl w p.A p.xs.length 1 (flts p.xs) ∧ p.xs.length ≤ 9223372036854775807

theorem TP.Rd.cell {w : World} {p : TP} (h : p.Rd w) {k : Nat} (hk : k < p.xs.length) : ∃ b o, p.A = some ⟨b, o, none⟩ ∧ w.cell? ⟨b, o + k, none⟩ = some (.float .f64 (p.xs.getD k 0)) := by
  obtain ⟨b, o, v, e1, e2, e3⟩ := h.1.at1 hk
  rw [flts_getD hk] at e2
  cases e2
  exact ⟨b, o, e1, e3⟩

theorem TP.Rd.mod {w w' : World} {p : TP} (h : p.Rd w) (hm : Mod (fun _ => False) w w') : p.Rd w' := ⟨h.1.mod hm, h.2⟩

theorem run_trunc (x : Nat) (hx : Num x) (w : World) : (callFunc 74 #[.float .f64 x]).run Try.prog w = .ok (.value (.float .f64 (trW x))) w := by
  have key : ∀ d, FloatKind.f64.decode x = d → d.isNaN = false → (Extern.MathFloor.toIntegral "math.archTrunc" .zero #[.float .f64 x]) = pure (.float .f64 (FloatKind.f64.encode (d.integral .zero))) := by
    intro d hd hn
    delta Extern.MathFloor.toIntegral
    conv => lhs; whnf
    rw [hd]
    cases d with
    | nan s t => simp [Ieee.Datum.isNaN] at hn
    | number s m i => rfl
    | infinity s => rfl
  rw [run_callFunc_extern Try.func74 (by kernel_rfl) (by kernel_rfl) (by kernel_rfl) (e := Extern.MathFloor.toIntegral "math.archTrunc" .zero) (by kernel_rfl), key _ rfl hx]
  rfl

set_option maxHeartbeats 400000 in
theorem trunc_any (x y : Nat) (w : World) (hx : Num x) (hy : y = trW x) :
    Calls Try.prog 60 #[.float .f64 x] w fun e w' => e = .returned (.float .f64 y) ∧ w = w' := by
  subst hy
  have hy := run_trunc x hx
  generalize trW x = y at hy ⊢
  go_enter Try.func60, Try.ntmps60
  go_wp2
  go_ret
  exact ⟨rfl, rfl⟩

/-- What Grid tells of points: where it says yes, each is of the size asked for, and each of its numbers is a whole one within 2^20. -/
def GridTold (pts : List TP) (dims : Int) (w : World) (e : Ending) (w' : World) : Prop :=
  w = w' ∧ ∃ b, e = .returned (.bool b) ∧ (b = true → (∀ p ∈ pts, (p.xs.length : Int) = dims ∧ ∀ x ∈ p.xs, ∃ n, Wh x n) ∧ 0 < dims)

theorem grid_no {pts : List TP} {dims : Int} {w : World} : GridTold pts dims w (.returned (.bool false)) w := ⟨rfl, false, rfl, fun h => by cases h⟩

set_option maxHeartbeats 2000000 in
theorem grid_any (O : Option Addr) (m c : Nat) (pts : List TP) (dims : Int) (w : World) (ho : Sl w O m 1 (pts.map TP.v)) (hm : m ≤ 9223372036854775807) (hp : ∀ p ∈ pts, p.Rd w) :
    Calls Try.prog 27 #[.slice O m c, .int .i64 dims, .float .f64 4697254411347427328] w (GridTold pts dims w) := by
  have hl : pts.length = m := by have := ho.1; simpa using this
  have hneg : ∀ (x : Nat) (w : World), (Op.unary .neg (.float .f64 x)).run Try.prog w = .ok (.float .f64 (Op.negFloat .f64 x)) w := fun _ _ => rfl
  go_enter Try.func27, Try.ntmps27
  go_wp2
  go_loop [13] (fun i => ∃ k : Nat, k ≤ m ∧ i = .int .i64 k ∧ ∀ p ∈ pts.take k, (p.xs.length : Int) = dims ∧ ∀ x ∈ p.xs, ∃ n, Wh x n) (fun i => m - (intOf i).toNat)
  case atStart => exact ⟨0, Nat.zero_le _, rfl, by simp⟩
  case round =>
    obtain ⟨k, hk, rfl, hdone⟩ := hrel
    have HD := Lib.hid hdone
    clear hdone
    by_cases hlt : k < m
    · obtain ⟨b, o, v, e1, e2, c1⟩ := ho.at1 hlt
      have hk2 : k < pts.length := by omega
      have e3 : (pts.map TP.v)[k]? = some (pts[k]).v := by simp [hk2]
      rw [e3] at e2
      cases e2
      have hpk : (pts[k]).Rd w := hp _ (List.getElem_mem hk2)
      obtain ⟨p, ep⟩ : ∃ p, p = pts[k] := ⟨_, rfl⟩
      rw [← ep] at c1 hpk e3
      have HTK : Hid (pts.take (k + 1) = pts.take k ++ [p]) := by show _ = _; rw [List.take_succ_eq_append_getElem hk2, ep]
      clear ep e3 hk2
      obtain ⟨A, c', xs⟩ := p
      obtain ⟨q, hlx⟩ : ∃ q, xs.length = q := ⟨_, rfl⟩
      have hpn : q ≤ 9223372036854775807 := by rw [← hlx]; exact hpk.2
      have HK : Hid (TP.Rd w ⟨A, c', xs⟩) := hpk
      have HLX := Lib.hid hlx
      replace c1 : w.cell? ⟨b, o + k, none⟩ = some (.slice A q c') := by rw [← hlx]; exact c1
      clear hpk hlx
      subst e1
      by_cases hdim : (q : Int) = dims
      · subst hdim
        go_wp2
        go_loop [23] (fun i => ∃ j : Nat, j ≤ q ∧ i = .int .i64 j ∧ ∀ x ∈ xs.take j, ∃ n, Wh x n) (fun i => q - (intOf i).toNat)
        case atStart => exact ⟨0, Nat.zero_le _, rfl, by simp⟩
        case round =>
          obtain ⟨j, hj, rfl, hdj⟩ := hrel
          have HDJ := Lib.hid hdj
          clear hdj
          by_cases hlj : j < q
          · obtain ⟨b2, o2, e4, c2⟩ := HK.out.cell (k := j) (by show j < xs.length; rw [HLX.out]; exact hlj)
            replace e4 : A = some ⟨b2, o2, none⟩ := e4
            replace c2 : w.cell? ⟨b2, o2 + j, none⟩ = some (.float .f64 (xs.getD j 0)) := c2
            have HTJ : Hid (xs.take (j + 1) = xs.take j ++ [xs.getD j 0]) := by
              show _ = _
              have : j < xs.length := by rw [HLX.out]; exact hlj
              rw [List.take_succ_eq_append_getElem this]; simp [this]
            obtain ⟨x, ex⟩ : ∃ x, x = xs.getD j 0 := ⟨_, rfl⟩
            rw [← ex] at c2 HTJ
            clear ex
            subst e4
            by_cases hnx : Num x
            · have HN := Lib.hid hnx
              clear hnx
              obtain ⟨g1, hg1⟩ : ∃ g1 : Bool, (FloatKind.f64.format.order x (Op.negFloat .f64 4697254411347427328) == some .gt || FloatKind.f64.format.order x (Op.negFloat .f64 4697254411347427328) == some .eq) = g1 := ⟨_, rfl⟩
              obtain ⟨g2, hg2⟩ : ∃ g2 : Bool, (FloatKind.f64.format.order x 4697254411347427328 == some .lt || FloatKind.f64.format.order x 4697254411347427328 == some .eq) = g2 := ⟨_, rfl⟩
              obtain ⟨y, hy⟩ : ∃ y, y = trW x := ⟨_, rfl⟩
              obtain ⟨g3, hg3⟩ : ∃ g3 : Bool, (FloatKind.f64.format.order x y == some .eq) = g3 := ⟨_, rfl⟩
              have hg3n : (FloatKind.f64.format.order x y != some .eq) = !g3 := by rw [← hg3]; rfl
              have HY := Lib.hid hy
              clear hy
              cases g1 <;> cases g2 <;> cases g3
              all_goals go_wp2_with (go_at_call 60; refine (trunc_any x y _ HN.out HY.out).mono ?_; rintro _ _ ⟨rfl, rfl⟩)
              all_goals first
                | (go_ret; exact grid_no)
                | (go_round
                   case rel =>
                     refine ⟨j + 1, by omega, by go_num, ?_⟩
                     rw [HTJ.out]
                     intro z hz
                     rcases List.mem_append.1 hz with h | h
                     · exact HDJ.out z h
                     · rw [List.mem_singleton.1 h]
                       refine whole_of_look hg1 hg2 ?_
                       have e5 := eq_of_beq hg3
                       rw [HY.out] at e5
                       exact e5
                   case measure => simp [intOf]; omega)
            · have hno : ∀ y, FloatKind.f64.format.order x y = none := fun y => by
                cases hh : FloatKind.f64.format.order x y with
                | none => rfl
                | some z => exact absurd (Num.of_order hh) hnx
              go_wp2
              go_ret
              exact grid_no
          · obtain rfl : j = q := by omega
            go_wp2_with fail
            go_round
            case rel =>
              refine ⟨k + 1, by omega, by go_num, ?_⟩
              rw [HTK.out]
              intro z hz
              rcases List.mem_append.1 hz with h | h
              · exact HD.out z h
              · rw [List.mem_singleton.1 h]
                refine ⟨by show (xs.length : Int) = _; rw [HLX.out], ?_⟩
                have := HDJ.out
                rw [List.take_of_length_le (by rw [HLX.out]; exact Nat.le_refl _)] at this
                exact this
            case measure => simp [intOf]; omega
      · have hne : ((q : Int) != dims) = true := by simp [hdim]
        have hne2 : ((q : Int) == dims) = false := by simp [hdim]
        go_wp2
        go_ret
        exact grid_no
    · obtain rfl : k = m := by omega
      by_cases h0 : 0 < dims
      · go_wp2
        go_ret
        refine ⟨rfl, true, rfl, fun _ => ⟨?_, h0⟩⟩
        have := HD.out
        rw [List.take_of_length_le (by omega)] at this
        exact this
      · have hd0 : decide (0 < dims) = false := by simp [h0]
        go_wp2
        go_ret
        exact grid_no
end Go.Proofs.Ytmeooadgdagiiaa

namespace Go.Proofs.Ytmeooadgdagiiaa
open Go.RowKit Lox
set_option linter.unusedVariables false

/-- A window of the array, with its plane. -/
abbrev planeV (d : Int) (S : Value) : Value := .agg #[.int .i64 d, S]

theorem pmeth_swap (d : Int) (S : Value) (w : World) : (method 318 209 (planeV d S) "Swap").run Try.prog w = .ok (156, planeV d S) w := by kernel_rfl
theorem pmeth_less (d : Int) (S : Value) (w : World) : (method 318 209 (planeV d S) "Less").run Try.prog w = .ok (155, planeV d S) w := by kernel_rfl
theorem pmeth_len (d : Int) (S : Value) (w : World) : (method 318 209 (planeV d S) "Len").run Try.prog w = .ok (154, planeV d S) w := by kernel_rfl

set_option maxHeartbeats 1000000 in
theorem plen_at (w : World) (d : Int) (A : Option Addr) (n c : Nat) :
    Calls Try.prog 154 #[.agg #[.int .i64 d, .slice A n c]] w fun e w' => e = .returned (.int .i64 n) ∧ Mod (fun _ => False) w w' := by
  go_enter Try.func154, Try.ntmps154
  go_wp2
  go_ret
  exact ⟨rfl, (Mod.refl _ w).alloc _⟩
end Go.Proofs.Ytmeooadgdagiiaa

namespace Go.Proofs.Ytmeooadgdagiiaa
open Go.RowKit Lox
set_option linter.unusedVariables false
attribute [local go_sem] run_store_flt run_store_fn

/-- A point that can be read and does not lie in the array's own block. -/
def TP.Okp (w : World) (dims pb : Nat) (p : TP) : Prop := p.Ok w dims ∧ ∀ b o, p.A = some ⟨b, o, none⟩ → b ≠ pb

theorem TP.Okp.mod {w w' : World} {dims pb : Nat} {S : Nat → Prop} {p : TP} (h : p.Okp w dims pb) (hm : Mod S w w') (hS : ∀ b o, p.A = some ⟨b, o, none⟩ → ¬ S b) : p.Okp w' dims pb := by
  refine ⟨⟨h.1.1, h.1.2.1, fun h0 => ?_⟩, h.2⟩
  obtain ⟨b, o, e, hc⟩ := h.1.2.2 h0
  exact ⟨b, o, e, fun j v hv => (hm.cell (lt_of_cell (hc j v hv)) (hS b o e)).trans (hc j v hv)⟩

theorem pless_g (w : World) (dims d pb o n c : Nat) (ps : List TP) (i j : Nat) (I J D : Int) (g : Bool) (p q : TP) (hg : g = leB d q p) (hI : I = i) (hJ : J = j) (hD : D = d) (h : TPs w pb ps) (hi : i < n) (hj : j < n) (hn : o + n ≤ ps.length) (hl : ps.length ≤ 1099511627776) (hc : n ≤ c) (hd : d < dims) (hdm : dims ≤ 1099511627776)
    (hp : ps[o + i]? = some p) (hq : ps[o + j]? = some q) (ho : p.Ok w dims ∧ q.Ok w dims) :
    Calls Try.prog 155 #[.agg #[.int .i64 D, .slice (some ⟨pb, o, none⟩) n c], .int .i64 I, .int .i64 J] w fun e w' => e = .returned (.bool (!g)) ∧ Mod (fun _ => False) w w' := by
  subst hg
  exact pless_at w dims d pb o n c ps i j I J D hI hJ hD h hi hj hn hl hc hd hdm p q hp hq ho

/-- The loop's state. -/
structure PS (w0 w' : World) (dims d pb n : Nat) (A l1 B : List TP) (i idx : Nat) (l' : List TP) : Prop where
  len : l'.length = n
  ii : idx ≤ i
  perm : l'.Perm l1
  pts : TPs w' pb (A ++ (l' ++ B))
  mod : Mod (fun k => k = pb) w0 w'
  same : KB.partLoop (leB d) (n - 1) (n - 1 - i) l' i idx = KB.partLoop (leB d) (n - 1) (n - 1) l1 0 0

set_option maxRecDepth 100000 in
set_option maxHeartbeats 4000000 in
theorem part_at (w : World) (dims d pb n c k : Nat) (D K : Int) (A l B : List TP) (hD : D = d) (hK : K = k) (h : TPs w pb (A ++ (l ++ B))) (ho : ∀ p ∈ l, p.Okp w dims pb) (hn : l.length = n) (hk : k < n) (hl : (A ++ (l ++ B)).length ≤ 1099511627776) (hc : n ≤ c) (hd : d < dims) (hdm : dims ≤ 1099511627776) :
    Calls Try.prog 128 #[.iface 209 (planeV D (.slice (some ⟨pb, A.length, none⟩) n c)), .int .i64 K] w fun e w' => e = .returned (.int .i64 ((KB.part (leB d) l k).2 : Nat)) ∧ TPs w' pb (A ++ ((KB.part (leB d) l k).1 ++ B)) ∧ Mod (fun k => k = pb) w w' := by
  subst hD hK
  have m1 := pmeth_less
  have m2 := pmeth_swap
  have m3 := pmeth_len
  have hb0 : (0 : Int) < n := by omega
  have hb1 : (n : Int) ≤ 1099511627776 := by have h5 := hl; rw [List.length_append, List.length_append, hn] at h5; omega
  have HK := Lib.hid (And.intro h (And.intro ho (And.intro hn hl)))
  clear h ho hn hl
  go_enter Try.func128, Try.ntmps128
  go_wp2_with (first | (go_at_call 154; refine (plen_at _ d (some ⟨pb, A.length, none⟩) n c).mono ?_; rintro _ w1 ⟨rfl, hm1⟩; have HM1 := Lib.hid hm1; clear hm1) | (go_at_call 156; refine (pswap_at _ d pb A.length n c (A ++ (l ++ B)) k (n - 1) k ((n : Int) - 1) rfl (by omega) (TPs.mod HK.out.1 HM1.out (fun h => h)) hk (by omega) (by have := HK.out.2.2.1; rw [List.length_append, List.length_append]; omega) HK.out.2.2.2 hc).mono ?_; rintro _ w2 ⟨rfl, hk2, hm2⟩; have HK2 := Lib.hid (And.intro hk2 hm2); clear hk2 hm2))
  go_loopw [5, 7] (fun x iv w' => ∃ (i idx : Nat) (l' : List TP), i ≤ n - 1 ∧ x = .int .i64 idx ∧ iv = .int .i64 i ∧ Hid (PS w w' dims d pb n A (KB.swp l k (n - 1)) B i idx l')) (fun _ iv _ => (n - (intOf iv).toNat))
  case atStart => exact ⟨0, 0, KB.swp l k (n - 1), by omega, rfl, rfl, ⟨by rw [KB.swp_len]; exact HK.out.2.2.1, by omega, List.Perm.refl _, by
      have e := KB.swp_mid A l B k (n - 1) (by have := HK.out.2.2.1; omega) (by have := HK.out.2.2.1; omega)
      rw [← e]; exact HK2.out.1, (HM1.out.mono (fun _ _ h => h.elim)).trans HK2.out.2, rfl⟩⟩
  case round =>
    obtain ⟨i, idx, l', hi, rfl, rfl, HR⟩ := hrel
    have HL : ∀ l' : List TP, l'.length = n → (A ++ (l' ++ B)).length ≤ 1099511627776 := by
      intro l' h
      have h5 := HK.out.2.2.2
      have h6 := HK.out.2.2.1
      rw [List.length_append, List.length_append] at h5 ⊢
      omega
    have hii := HR.out.ii
    by_cases hlt : i < n - 1
    · have hlen := HR.out.len
      obtain ⟨x, hx⟩ : ∃ x, l'[i]? = some x := ⟨_, List.getElem?_eq_getElem (by omega)⟩
      obtain ⟨p, hp⟩ : ∃ p, l'[n - 1]? = some p := ⟨_, List.getElem?_eq_getElem (by omega)⟩
      have get : ∀ t, t < n → (A ++ (l' ++ B))[A.length + t]? = l'[t]? := fun t ht => by
        rw [List.getElem?_append_right (by omega), List.getElem?_append_left (by omega)]
        congr 1
        omega
      have HP := Lib.hid (And.intro ((get i (by omega)).trans hx) ((get (n - 1) (by omega)).trans hp))
      obtain ⟨g, hg⟩ : ∃ g, g = leB d x p := ⟨_, rfl⟩
      have hstep : KB.partLoop (leB d) (n - 1) (n - 1 - i) l' i idx = if leB d x p then KB.partLoop (leB d) (n - 1) (n - 1 - (i + 1)) (KB.swp l' idx i) (i + 1) (idx + 1) else KB.partLoop (leB d) (n - 1) (n - 1 - (i + 1)) l' (i + 1) idx := by
        have e : n - 1 - i = n - 1 - (i + 1) + 1 := by omega
        rw [e]
        conv => lhs; unfold KB.partLoop
        rw [hx, hp]
      rw [← hg] at hstep
      have okp : ∀ (y : TP) (t : Nat), l'[t]? = some y → y.Ok wr dims := fun y t hy => by
        have hm := (HR.out.perm.trans (KB.swp_perm l k (n - 1))).mem_iff.1 (List.mem_of_getElem? hy)
        have h5 := HK.out.2.1 y hm
        exact (h5.mod HR.out.mod (fun b o e => h5.2 b o e)).1
      have HO := Lib.hid (And.intro (okp p _ hp) (okp x _ hx))
      clear okp
      have HS := Lib.hid hstep
      have HG := Lib.hid hg
      have h1 : (i : Int) < (n : Int) - 1 := by omega
      have h2 : (idx : Int) ≤ i := by omega
      clear hstep hg hx hp get hlen
      cases g with
      | false =>
        go_wp2_with (go_at_call 155; refine (pless_g _ dims d pb A.length n c (A ++ (l' ++ B)) (n - 1) i ((n : Int) - 1) i d false p x HG.out (by omega) rfl rfl HR.out.pts (by omega) (by omega) (by have := HR.out.len; rw [List.length_append, List.length_append]; omega) (HL l' HR.out.len) hc hd hdm HP.out.2 HP.out.1 HO.out).mono ?_; rintro _ w2 ⟨rfl, hm2⟩; have HL2 := Lib.hid hm2; clear hm2)
        go_roundw
        case rel =>
          refine ⟨i + 1, idx, l', by omega, rfl, by go_num, ⟨HR.out.len, by omega, HR.out.perm, TPs.mod HR.out.pts HL2.out (fun h => h), HR.out.mod.trans (HL2.out.mono (fun _ _ h => h.elim)), ?_⟩⟩
          have h5 := HS.out
          rw [if_neg (by decide)] at h5
          rw [← h5]
          exact HR.out.same
        case measure => simp [intOf]; omega
      | true =>
        go_wp2_with (first | (go_at_call 155; refine (pless_g _ dims d pb A.length n c (A ++ (l' ++ B)) (n - 1) i ((n : Int) - 1) i d true p x HG.out (by omega) rfl rfl HR.out.pts (by omega) (by omega) (by have := HR.out.len; rw [List.length_append, List.length_append]; omega) (HL l' HR.out.len) hc hd hdm HP.out.2 HP.out.1 HO.out).mono ?_; rintro _ w2 ⟨rfl, hm2⟩; have HL2 := Lib.hid hm2; clear hm2) | (go_at_call 156; refine (pswap_at _ d pb A.length n c (A ++ (l' ++ B)) idx i idx i rfl rfl (TPs.mod HR.out.pts HL2.out (fun h => h)) (by omega) (by omega) (by have := HR.out.len; rw [List.length_append, List.length_append]; omega) (HL l' HR.out.len) hc).mono ?_; rintro _ w3 ⟨rfl, hk3, hm3⟩; have HK3 := Lib.hid (And.intro hk3 hm3); clear hk3 hm3))
        go_roundw
        case rel =>
          refine ⟨i + 1, idx + 1, KB.swp l' idx i, by omega, by go_num, by go_num, ⟨by rw [KB.swp_len]; exact HR.out.len, by omega, (KB.swp_perm _ _ _).trans HR.out.perm, ?_, (HR.out.mod.trans (HL2.out.mono (fun _ _ h => h.elim))).trans HK3.out.2, ?_⟩⟩
          · have e := KB.swp_mid A l' B idx i (by have := HR.out.len; omega) (by have := HR.out.len; omega)
            rw [← e]
            exact HK3.out.1
          · have h5 := HS.out
            rw [if_pos trivial] at h5
            rw [← h5]
            exact HR.out.same
        case measure => simp [intOf]; omega
    · obtain rfl : i = n - 1 := by omega
      have hcast : (((n - 1 : Nat) : Nat) : Int) = (n : Int) - 1 := by omega
      rw [hcast]
      go_wp2_with (go_at_call 156; refine (pswap_at _ d pb A.length n c (A ++ (l' ++ B)) (n - 1) idx ((n : Int) - 1) idx (by omega) rfl HR.out.pts (by omega) (by omega) (by have := HR.out.len; rw [List.length_append, List.length_append]; omega) (HL l' HR.out.len) hc).mono ?_; rintro _ w3 ⟨rfl, hk3, hm3⟩; have HK3 := Lib.hid (And.intro hk3 hm3); clear hk3 hm3)
      have hsame := HR.out.same
      rw [Nat.sub_self] at hsame
      have hfin : KB.part (leB d) l k = (KB.swp l' (n - 1) idx, idx) := by
        unfold KB.part
        rw [HK.out.2.2.1, ← hsame]
        rfl
      rw [hfin]
      have e := KB.swp_mid A l' B (n - 1) idx (by have := HR.out.len; omega) (by have := HR.out.len; omega)
      go_ret
      exact ⟨rfl, by rw [← e]; exact HK3.out.1, HR.out.mod.trans HK3.out.2⟩
end Go.Proofs.Ytmeooadgdagiiaa

namespace Go.Proofs.Ytmeooadgdagiiaa
open Go.RowKit Lox
set_option linter.unusedVariables false
attribute [local go_sem] run_store_flt run_store_fn

/-- A list of points with picks. -/
abbrev picksV (S : Value) (lc : Nat) : Value := .agg #[S, .pointer (some ⟨lc, 0, none⟩)]

theorem kmeth_len (S : Value) (lc : Nat) (w : World) : (method 318 71 (picksV S lc) "Len").run Try.prog w = .ok (124, picksV S lc) w := by kernel_rfl
theorem kmeth_index (S : Value) (lc : Nat) (w : World) : (method 318 71 (picksV S lc) "Index").run Try.prog w = .ok (123, picksV S lc) w := by kernel_rfl
theorem kmeth_slice (S : Value) (lc : Nat) (w : World) : (method 318 71 (picksV S lc) "Slice").run Try.prog w = .ok (126, picksV S lc) w := by kernel_rfl
theorem kmeth_pivot (S : Value) (lc : Nat) (w : World) : (method 318 71 (picksV S lc) "Pivot").run Try.prog w = .ok (125, picksV S lc) w := by kernel_rfl
theorem kahead_slice (S : Value) (lc : Nat) (w : World) : (nilAhead 318 71 (picksV S lc) "Slice").run Try.prog w = .ok (some false) w := by kernel_rfl
theorem kahead_compare (A : Option Addr) (n c : Nat) (w : World) : (nilAhead 318 73 (.slice A n c) "Compare").run Try.prog w = .ok (some false) w := by kernel_rfl
theorem kmeth_dims (S : Value) (w : World) : (method 318 73 S "Dims").run Try.prog w = .ok (134, S) w := by kernel_rfl
theorem kmeth_compare (S : Value) (w : World) : (method 318 73 S "Compare").run Try.prog w = .ok (133, S) w := by kernel_rfl

set_option maxHeartbeats 1000000 in
theorem klen_at (w : World) (A : Option Addr) (n c lc : Nat) :
    Calls Try.prog 124 #[picksV (.slice A n c) lc] w fun e w' => e = .returned (.int .i64 n) ∧ Mod (fun _ => False) w w' := by
  go_enter Try.func124, Try.ntmps124
  go_wp2
  go_ret
  exact ⟨rfl, (Mod.refl _ w).alloc _⟩

set_option maxHeartbeats 1000000 in
theorem pdims_at (w : World) (A : Option Addr) (n c : Nat) :
    Calls Try.prog 134 #[.slice A n c] w fun e w' => e = .returned (.int .i64 n) ∧ w = w' := by
  go_enter Try.func134, Try.ntmps134
  go_wp2
  go_ret
  exact ⟨rfl, rfl⟩

set_option maxHeartbeats 1000000 in
theorem kindex_at (w : World) (pb o n c lc i k : Nat) (I : Int) (ps : List TP) (p : TP) (hI : I = i) (hk : p.xs.length = k) (h : TPs w pb ps) (hi : i < n) (hn : n ≤ 1099511627776) (hp : ps[o + i]? = some p) :
    Calls Try.prog 123 #[picksV (.slice (some ⟨pb, o, none⟩) n c) lc, .int .i64 I] w fun e w' => e = .returned (.iface 73 (.slice p.A k p.c)) ∧ Mod (fun _ => False) w w' := by
  subst hI hk
  have c1 : w.cell? ⟨pb, o + i, none⟩ = some p.v := TPs.at h hp
  have lt := TPs.lt h
  unfold TP.v at c1
  have i1 : (0 : Int) ≤ i := by omega
  have i2 : (i : Int) < n := by omega
  clear h hp
  go_enter Try.func123, Try.ntmps123
  go_wp2
  go_ret
  exact ⟨rfl, (Mod.refl _ w).alloc _⟩

set_option maxHeartbeats 1000000 in
theorem kslice_at (w : World) (A : Option Addr) (n c lc i j n' c' : Nat) (I J : Int) (hI : I = i) (hJ : J = j) (hn' : n' = j - i) (hc' : c' = c - i) (hi : i ≤ j) (hj : j ≤ n) (hn : n ≤ c) (hc : c ≤ 9223372036854775807) :
    Calls Try.prog 126 #[picksV (.slice A n c) lc, .int .i64 I, .int .i64 J] w fun e w' => (∃ A', e = .returned (.iface 71 (picksV (.slice A' n' c') lc)) ∧ (i < j → ∀ b o, A = some ⟨b, o, none⟩ → A' = some ⟨b, o + i, none⟩)) ∧ Mod (fun _ => False) w w' := by
  subst hI hJ hn' hc'
  go_enter Try.func126, Try.ntmps126
  go_wp2
  go_quiet (fail)
  go_wp2
  all_goals
    go_ret
    refine ⟨⟨_, rfl, fun hij b o e => ?_⟩, ⟨rfl, rfl, rfl, by simp [World.drewN], fun k hk _ => Below.heap_alloc _ _ _ hk⟩⟩
    subst e
    first | omega | (show some ((⟨b, o, none⟩ : Addr).add i) = _; rw [addr_lit])

/-- The picks' variable: what picks are left. -/
def PK (w : World) (lc pb : Nat) (ks : List Nat) : Prop :=
  ∃ (A : Option Addr) (c : Nat), Blk w lc 23 [.slice A ks.length c] ∧ Sl w A ks.length 1 (ints (ks.map Int.ofNat)) ∧ ks.length ≤ c ∧ c ≤ 9223372036854775807 ∧ (∀ k ∈ ks, k ≤ 9223372036854775807) ∧
    (0 < ks.length → ∀ b o, A = some ⟨b, o, none⟩ → b ≠ pb ∧ b ≠ lc)

theorem PK.mod {w w' : World} {lc pb : Nat} {ks : List Nat} {S : Nat → Prop} (h : PK w lc pb ks) (hm : Mod S w w') (hS : ∀ k, S k → k = pb) (hne : lc ≠ pb) : PK w' lc pb ks := by
  obtain ⟨A, c, hb, hs, h1, h2, h3, h4⟩ := h
  refine ⟨A, c, hb.mod hm (fun h => hne (hS _ h)), ⟨hs.1, fun h0 => ?_⟩, h1, h2, h3, h4⟩
  obtain ⟨b, o, e, hc⟩ := hs.2 h0
  exact ⟨b, o, e, fun j v hv => (hm.cell (lt_of_cell (hc j v hv)) (fun h => (h4 h0 b o e).1 (hS _ h))).trans (hc j v hv)⟩

theorem pick_mod (x n : Nat) (h0 : 0 < n) (hn : n ≤ 1099511627776) : (wrap64 ((x : Int) % (n : Int) + (n : Int))).tmod (n : Int) = ((x % n : Nat) : Int) := by
  have h1 : x % n < n := Nat.mod_lt _ h0
  have e1 : (x : Int) % (n : Int) = ((x % n : Nat) : Int) := by simp
  rw [e1]
  have e2 : wrap64 (((x % n : Nat) : Int) + (n : Int)) = ((x % n + n : Nat) : Int) := by unfold wrap64; omega
  rw [e2, ← Int.ofNat_tmod]
  simp

theorem pk_next {w w' : World} {lc pb x b o pc : Nat} {ks : List Nat} {A' : Option Addr} (hs : Sl w (some ⟨b, o, none⟩) (x :: ks).length 1 (ints ((x :: ks).map Int.ofNat))) (hW : Blk w' lc 23 [.slice A' ks.length (pc - 1)])
    (hm : Mod (fun k => k = pb ∨ k = lc) w w') (hA : 0 < ks.length → A' = some ⟨b, o + 1, none⟩) (h1 : ks.length + 1 ≤ pc) (h2 : pc ≤ 9223372036854775807) (h3 : ∀ k ∈ x :: ks, k ≤ 9223372036854775807)
    (h4 : ∀ b' o', some (⟨b, o, none⟩ : Addr) = some ⟨b', o', none⟩ → b' ≠ pb ∧ b' ≠ lc) : PK w' lc pb ks := by
  refine ⟨A', pc - 1, hW, ⟨by simp [ints], fun h0 => ?_⟩, by omega, by omega, fun k hk => h3 k (by simp [hk]), fun h0 b' o' e => ?_⟩
  · obtain ⟨b1, o1, e, hc⟩ := hs.2 (by simp)
    cases e
    obtain ⟨g1, g2⟩ := h4 b o rfl
    refine ⟨b, o + 1, hA h0, fun j v hv => ?_⟩
    have := hc (j + 1) v (by simpa [ints] using hv)
    rw [show o + 1 + j = o + (j + 1) by omega]
    exact (hm.cell (lt_of_cell this) (by rintro (h | h); exact g1 h; exact g2 h)).trans this
  · rw [hA h0] at e
    cases e
    exact h4 b o rfl

set_option maxRecDepth 100000 in
set_option maxHeartbeats 4000000 in
theorem kpivot_at (w : World) (dims d pb n c lc : Nat) (D : Int) (A l B : List TP) (ks : List Nat) (hD : D = d) (h : TPs w pb (A ++ (l ++ B))) (ho : ∀ p ∈ l, p.Okp w dims pb) (hk : PK w lc pb ks) (hne : lc ≠ pb) (hn : l.length = n) (hn0 : 0 < n) (hl : (A ++ (l ++ B)).length ≤ 1099511627776) (hc : n ≤ c) (hd : d < dims) (hdm : dims ≤ 1099511627776) (hf : ∀ p ∈ l, ∀ b o, p.A = some ⟨b, o, none⟩ → b ≠ lc) :
    Calls Try.prog 125 #[picksV (.slice (some ⟨pb, A.length, none⟩) n c) lc, .int .i64 D] w fun e w' => e = .returned (.int .i64 ((KB.part (leB d) l (KB.pick n ks).1).2 : Nat)) ∧ TPs w' pb (A ++ ((KB.part (leB d) l (KB.pick n ks).1).1 ++ B)) ∧ PK w' lc pb (KB.pick n ks).2 ∧ Mod (fun k => k = pb ∨ k = lc) w w' := by
  subst hD
  have hb0 : (0 : Int) < n := by omega
  have hb1 : (n : Int) ≤ 1099511627776 := by have h5 := hl; rw [List.length_append, List.length_append, hn] at h5; omega
  have HK := Lib.hid (And.intro h (And.intro ho (And.intro hn (And.intro hl hf))))
  clear h ho hn hl hf
  obtain ⟨PA, pc, hb, hs, h1, h2, h3, h4⟩ := hk
  have clc := hb.at (i := 0) rfl
  have flc := hb.frozen 0
  have llc := hb.lt
  have HP := Lib.hid (And.intro hb (And.intro hs h4))
  clear hb hs h4
  have PART : ∀ (w1 : World) (k : Nat) (K : Int), K = k → k < n → Mod (fun k => k = lc) w w1 →
      Calls Try.prog 128 #[.iface 209 (planeV d (.slice (some ⟨pb, A.length, none⟩) n c)), .int .i64 K] w1 fun e w' => e = .returned (.int .i64 ((KB.part (leB d) l k).2 : Nat)) ∧ TPs w' pb (A ++ ((KB.part (leB d) l k).1 ++ B)) ∧ Mod (fun k => k = pb) w1 w' := by
    intro w1 k K hK hk hm
    obtain ⟨q1, q2, q3, q4, q5⟩ := HK.out
    exact part_at w1 dims d pb n c k d K A l B rfl hK (TPs.mod q1 hm (fun h => hne h.symm)) (fun p hp => (q2 p hp).mod hm (q5 p hp)) q3 hk q4 hc hd hdm
  have HPART := Lib.hid PART
  clear PART
  cases ks with
  | nil =>
    have h1' := h1
    have h2' := h2
    clear h3 h1 h2
    have e0 : ([] : List Nat).length = 0 := rfl
    rw [e0] at clc
    go_enter Try.func125, Try.ntmps125
    go_wp2_with (go_at_call 128; refine (HPART.out _ (n / 2) _ (by omega) (by omega) ((Mod.refl _ _).alloc _)).mono ?_; rintro _ w1 ⟨rfl, ht, hm⟩; have HT := Lib.hid (And.intro ht hm); clear ht hm)
    go_ret
    have e1 : KB.pick n [] = (n / 2, []) := rfl
    rw [e1]
    have hm1 : Mod (fun k => k = pb) w w1 := (((Mod.refl _ _).alloc _).trans HT.out.2)
    exact ⟨rfl, HT.out.1, PK.mod ⟨PA, pc, HP.out.1, HP.out.2.1, h1', h2', (fun k hk => by cases hk), HP.out.2.2⟩ hm1 (fun _ h => h) hne, hm1.mono (fun _ _ h => .inl h)⟩
  | cons x ks =>
    obtain ⟨m, hm⟩ : ∃ m, m = ks.length := ⟨_, rfl⟩
    rw [List.length_cons, ← hm] at clc h1
    obtain ⟨b, o, e, hcell⟩ := HP.out.2.1.2 (by simp)
    have cx := hcell 0 (.int .i64 x) rfl
    rw [Nat.add_zero] at cx
    have hx := h3 x (by simp)
    have lcx := lt_of_cell cx
    have hmo : 0 < m + 1 := by omega
    subst e
    have HM := Lib.hid (And.intro hm h3)
    clear hm h3 hcell
    by_cases hpc : pc = 1
    · subst hpc
      go_enter Try.func125, Try.ntmps125
      go_wp2_with fail
      go_region
      rw [pick_mod x n (by omega) (by omega)]
      obtain rfl : m = 0 := by omega
      have hW := ((HP.out.1.set 0 (Value.slice (some { block := b, off := o }) 0 0)).alloc (Obj.cells #[Value.slice (some { block := pb, off := A.length }) n c, Value.pointer (some { block := lc, off := 0 })] 71)).drew
      have hM := (((Mod.refl (fun k => k = lc) w).set (p := ⟨lc, 0, none⟩) (Or.inl rfl) (Value.slice (some { block := b, off := o }) 0 0)).alloc (Obj.cells #[Value.slice (some { block := pb, off := A.length }) n c, Value.pointer (some { block := lc, off := 0 })] 71)).drew
      have HW := Lib.hid (And.intro hW hM)
      clear hW hM
      go_wp2_with (go_at_call 128; refine (HPART.out _ (x % n) _ rfl (Nat.mod_lt _ (by omega)) HW.out.2).mono ?_; rintro _ w1 ⟨rfl, ht, hm⟩; have HT := Lib.hid (And.intro ht hm); clear ht hm)
      go_ret
      have e1 : KB.pick n (x :: ks) = (x % n, ks) := rfl
      rw [e1]
      have hm1 : Mod (fun k => k = pb ∨ k = lc) w w1 := (HW.out.2.mono (fun _ _ h => .inr h)).trans (HT.out.2.mono (fun _ _ h => .inl h))
      have hk0 := HM.out.1
      refine ⟨rfl, HT.out.1, ?_, hm1⟩
      show PK w1 lc pb ks
      refine pk_next (pc := 1) (A' := some ⟨b, o, none⟩) HP.out.2.1 ?_ hm1 (fun h => by omega) (by omega) (by omega) HM.out.2 (fun b' o' e => HP.out.2.2 (by simp) b' o' e)
      rw [← hk0]
      exact HW.out.1.mod HT.out.2 hne
    · have p1 : (1 : Int) ≤ pc := by omega
      have p2 : (pc : Int) ≠ 1 := by omega
      go_enter Try.func125, Try.ntmps125
      go_wp2_with fail
      go_region
      rw [pick_mod x n (by omega) (by omega)]
      have hW := ((HP.out.1.set 0 (Value.slice (some { block := b, off := o + 1 }) m (pc - 1))).alloc (Obj.cells #[Value.slice (some { block := pb, off := A.length }) n c, Value.pointer (some { block := lc, off := 0 })] 71)).drew
      have hM := (((Mod.refl (fun k => k = lc) w).set (p := ⟨lc, 0, none⟩) (Or.inl rfl) (Value.slice (some { block := b, off := o + 1 }) m (pc - 1))).alloc (Obj.cells #[Value.slice (some { block := pb, off := A.length }) n c, Value.pointer (some { block := lc, off := 0 })] 71)).drew
      have HW := Lib.hid (And.intro hW hM)
      clear hW hM
      go_wp2_with (go_at_call 128; refine (HPART.out _ (x % n) _ rfl (Nat.mod_lt _ (by omega)) HW.out.2).mono ?_; rintro _ w1 ⟨rfl, ht, hm⟩; have HT := Lib.hid (And.intro ht hm); clear ht hm)
      go_ret
      have e1 : KB.pick n (x :: ks) = (x % n, ks) := rfl
      rw [e1]
      have hm1 : Mod (fun k => k = pb ∨ k = lc) w w1 := (HW.out.2.mono (fun _ _ h => .inr h)).trans (HT.out.2.mono (fun _ _ h => .inl h))
      have hk0 := HM.out.1
      refine ⟨rfl, HT.out.1, ?_, hm1⟩
      show PK w1 lc pb ks
      refine pk_next (pc := pc) (A' := some ⟨b, o + 1, none⟩) HP.out.2.1 ?_ hm1 (fun h => rfl) (by omega) (by omega) HM.out.2 (fun b' o' e => HP.out.2.2 (by simp) b' o' e)
      rw [← hk0]
      exact HW.out.1.mod HT.out.2 hne
end Go.Proofs.Ytmeooadgdagiiaa

namespace Go.Proofs.Ytmeooadgdagiiaa
open Go.RowKit Lox
set_option linter.unusedVariables false
attribute [local go_sem] run_store_flt

theorem info_f64 : (Try.prog.info? 27).map (fun i => (i.zero, i.size, i.bytes)) = some (some (.float .f64 0), 1, 8) := by kernel_rfl
theorem info_int : (Try.prog.info? 3).map (fun i => (i.zero, i.size, i.bytes)) = some (some (.int .i64 0), 1, 8) := by kernel_rfl

/-- A copy of a point, in memory of its own. -/
def NewPt (n : Nat) (xs : List Nat) (w : World) (e : Ending) (w' : World) : Prop :=
  ∃ A' c', e = .returned (.slice A' n c') ∧ Sl w' A' n 1 (flts xs) ∧ Mod (fun _ => False) w w' ∧ ∀ b o, A' = some ⟨b, o, none⟩ → w.heap.size ≤ b

theorem mod_of_grown {w w' : World} (h : w.grownBy w' none) : Mod (fun _ => False) w w' := ⟨h.os, h.tape, h.output, h.size, fun k hk _ => h.block k hk (by simp)⟩

set_option maxHeartbeats 1000000 in
theorem floats_any (A : Option Addr) (n c : Nat) (xs : List Nat) (w : World) (h : Sl w A n 1 (flts xs)) (hn : n ≤ 1099511627776) (h0 : 0 < n) :
    Calls Try.prog 33 #[.slice A n c] w (NewPt n xs w) := by
  obtain ⟨i0, hi0, hz0, hz1, hz2⟩ := info_parts info_f64
  have HI := Lib.hid (And.intro hi0 (And.intro hz0 (And.intro hz1 hz2)))
  clear hi0 hz0 hz1 hz2
  have hlx : xs.length = n := by have := h.1; simpa [flts] using this
  obtain ⟨b, o, e, hc⟩ := h.2 h0
  subst e
  have H := Lib.hid h
  have HC := Lib.hid hc
  have HLX := Lib.hid hlx
  clear h hc hlx
  go_enter Try.func33, Try.ntmps33
  go_wp2_with (at_builtin; refine wpList_append_lies _ rfl _ _ _ rfl w.heap.size 27 i0 (.float .f64 0) 1 8 Try.underlying26 HI.out.1 HI.out.2.1 HI.out.2.2.1 HI.out.2.2.2 rfl (by decide) (.slice none 0 0) 0 [] rfl (World.ownsRow_nil _ _ _ _) ⟨b, o, none⟩ n c (flts xs) rfl (by rw [H.out.1]) (by intro j u hu; rw [addr_lit]; exact HC.out j u hu) (by intro u hu; obtain ⟨z, _, rfl⟩ := List.mem_map.1 hu; rfl) h0 (by unfold maxLen; omega) (by omega) (Nat.le_refl _) w.heap.size rfl ?_; intro g cap w1 hown hgrow hat hlt)
  go_ret
  have hg : g = w.heap.size := by
    rcases hat with hat | hat
    · cases hat
    · exact hat
  simp only [Nat.zero_add, List.nil_append] at hown ⊢
  refine ⟨_, _, rfl, ⟨H.out.1, fun _ => ⟨g, 0, rfl, fun j u hu => ?_⟩⟩, mod_of_grown hgrow, fun b' o' e' => ?_⟩
  · have := hown.cells (g := g) rfl j u hu
    rw [addr_lit] at this
    exact this
  · cases e'
    omega

/-- A copy of a row of whole numbers, in memory of its own. -/
def NewInts (n : Nat) (xs : List Int) (w : World) (e : Ending) (w' : World) : Prop :=
  ∃ A' c', e = .returned (.slice A' n c') ∧ Sl w' A' n 1 (ints xs) ∧ Mod (fun _ => False) w w' ∧ n ≤ c' ∧ c' ≤ 9223372036854775807 ∧ ∀ b o, A' = some ⟨b, o, none⟩ → w.heap.size ≤ b

theorem own_newInts {w w1 : World} {v : Value} {n : Nat} {xs : List Int} (hown : w1.ownsRow w.heap.size 3 1 v n (ints xs)) (hm : Mod (fun _ => False) w w1) : NewInts n xs w (.returned v) w1 := by
  rcases hown.2 with ⟨rfl, h0⟩ | ⟨g, cap, cur, e1, hb, hg, hc, hcm, hsz, ht⟩
  · subst h0
    exact ⟨none, 0, rfl, ⟨by have := hown.1; simpa using this, fun h => by omega⟩, hm, Nat.le_refl _, by omega, fun b o e => by cases e⟩
  · subst e1
    refine ⟨_, _, rfl, ⟨hown.1, fun _ => ⟨g, 0, rfl, fun j u hu => ?_⟩⟩, hm, hc, hcm, fun b' o' e' => ?_⟩
    · have := hown.cells (g := g) rfl j u hu
      rw [addr_lit] at this
      exact this
    · cases e'
      exact hb

set_option maxHeartbeats 1000000 in
theorem ints_any (A : Option Addr) (n c : Nat) (xs : List Int) (w : World) (h : Sl w A n 1 (ints xs)) (hn : n ≤ 1099511627776) (hA : A = none → c = 0) :
    Calls Try.prog 29 #[.slice A n c] w (NewInts n xs w) := by
  obtain ⟨i0, hi0, hz0, hz1, hz2⟩ := info_parts info_int
  have HI := Lib.hid (And.intro hi0 (And.intro hz0 (And.intro hz1 hz2)))
  clear hi0 hz0 hz1 hz2
  have H := Lib.hid h
  clear h
  cases A with
  | none =>
    obtain rfl : n = 0 := by
      rcases Nat.eq_zero_or_pos n with h0 | h0
      · exact h0
      · obtain ⟨_, _, h, _⟩ := H.out.2 h0
        cases h
    obtain rfl : c = 0 := hA rfl
    go_enter Try.func29, Try.ntmps29
    go_wp2
    go_ret
    exact ⟨none, 0, rfl, H.out, Mod.refl _ _, Nat.le_refl _, by omega, fun b o e => by cases e⟩
  | some ad =>
    clear hA
    go_enter Try.func29, Try.ntmps29
    go_wp2_with (at_builtin; refine wpList_append_own _ rfl _ _ _ rfl w.heap.size 3 i0 (.int .i64 0) 1 8 Try.underlying23 HI.out.1 HI.out.2.1 HI.out.2.2.1 HI.out.2.2.2 rfl (by decide) (.slice none 0 0) 0 [] rfl (World.ownsRow_nil _ _ _ _) ad n c (ints xs) rfl (by rw [H.out.1]) (by intro j u hu; obtain ⟨b, o, e, hc⟩ := H.out.2 (by have := H.out.1; have := (List.getElem?_eq_some_iff.1 hu).1; omega); cases e; rw [addr_lit]; exact hc j u hu) (by intro u hu; obtain ⟨z, _, rfl⟩ := List.mem_map.1 hu; rfl) (by unfold maxLen; omega) (by omega) (Nat.le_refl _) ?_; intro v w1 hown hgrow hat)
    go_ret
    simp only [Nat.zero_add, List.nil_append] at hown
    exact own_newInts hown (mod_of_grown hgrow)
end Go.Proofs.Ytmeooadgdagiiaa

namespace Go.Proofs.Ytmeooadgdagiiaa
open Go.RowKit Lox
set_option linter.unusedVariables false
attribute [local go_sem] run_store_flt

/-- A list of points that came in. -/
structure RR where
  A : Option Addr
  c : Nat
  ps : List TP

def RR.v (x : RR) : Value := .slice x.A x.ps.length x.c
def RR.Ok (w : World) (x : RR) : Prop := Sl w x.A x.ps.length 1 (x.ps.map TP.v) ∧ (∀ p ∈ x.ps, p.Rd w) ∧ x.ps.length ≤ 9223372036854775807

theorem RR.Ok.mod {w w' : World} {x : RR} (h : x.Ok w) (hm : Mod (fun _ => False) w w') : x.Ok w' := ⟨h.1.mod hm, fun p hp => (h.2.1 p hp).mod hm, h.2.2⟩

/-- What a look at lengths tells. -/
def FitsTold (x : RR) (w : World) (e : Ending) (w' : World) : Prop :=
  ∃ b, e = .returned (.bool b) ∧ w = w' ∧ (b = true → x.ps.length ≤ 2147483647 ∧ ∀ p ∈ x.ps, p.xs.length ≤ 2147483647)

set_option maxHeartbeats 1000000 in
theorem fits4_any (x : RR) (w : World) (h : x.Ok w) : Calls Try.prog 8 #[x.v] w (FitsTold x w) := by
  obtain ⟨A, c, ps⟩ := x
  obtain ⟨m, hm⟩ : ∃ m, ps.length = m := ⟨_, rfl⟩
  have hml : m ≤ 9223372036854775807 := by rw [← hm]; exact h.2.2
  have HH := Lib.hid (And.intro h hm)
  have e : (RR.mk A c ps).v = .slice A m c := by rw [← hm]; rfl
  rw [e]
  clear h hm e
  go_enter Try.func8, Try.ntmps8
  by_cases hn : 2147483647 < m
  · go_wp2
    go_ret
    exact ⟨_, rfl, rfl, fun h => by cases h⟩
  · go_wp2
    go_loop [10] (fun i => ∃ k : Nat, k ≤ m ∧ i = .int .i64 k ∧ Hid (∀ p ∈ ps.take k, p.xs.length ≤ 2147483647)) (fun i => m - (intOf i).toNat)
    case atStart => exact ⟨0, Nat.zero_le _, rfl, by show ∀ p ∈ ps.take 0, _; simp⟩
    case round =>
      obtain ⟨k, hk, rfl, HR⟩ := hrel
      by_cases hlt : k < m
      · have hsl : Sl w A m 1 (ps.map TP.v) := by rw [← HH.out.2]; exact HH.out.1.1
        obtain ⟨b, o, v, e1, e2, c1⟩ := hsl.at1 hlt
        have hk2 : k < ps.length := by rw [HH.out.2]; exact hlt
        obtain ⟨p, ep⟩ : ∃ p, p = ps[k] := ⟨_, rfl⟩
        have e3 : (ps.map TP.v)[k]? = some p.v := by rw [ep]; simp [hk2]
        rw [e3] at e2
        cases e2
        have HTK : Hid (ps.take (k + 1) = ps.take k ++ [p]) := by show _ = _; rw [List.take_succ_eq_append_getElem hk2, ep]
        obtain ⟨q, hq⟩ : ∃ q, p.xs.length = q := ⟨_, rfl⟩
        have c2 : w.cell? ⟨b, o + k, none⟩ = some (.slice p.A q p.c) := by rw [← hq]; exact c1
        have hql : q ≤ 9223372036854775807 := by rw [← hq]; exact (HH.out.1.2.1 p (by rw [ep]; exact List.getElem_mem hk2)).2
        have HQ := Lib.hid hq
        subst e1
        clear c1 e3 ep hk2 hq hsl
        by_cases hbig : 2147483647 < q
        · go_wp2
          go_ret
          exact ⟨_, rfl, rfl, fun h => by cases h⟩
        · go_wp2
          go_round
          case rel =>
            refine ⟨k + 1, by omega, by go_num, ?_⟩
            show ∀ p ∈ ps.take (k + 1), _
            rw [HTK.out]
            intro z hz
            rcases List.mem_append.1 hz with h | h
            · exact HR.out z h
            · rw [List.mem_singleton.1 h, HQ.out]; omega
          case measure => simp [intOf]; omega
      · obtain rfl : k = m := by omega
        go_wp2
        go_ret
        refine ⟨_, rfl, rfl, fun _ => ⟨by rw [HH.out.2]; omega, ?_⟩⟩
        have := HR.out
        rw [List.take_of_length_le (by rw [HH.out.2]; exact Nat.le_refl _)] at this
        exact this

set_option maxHeartbeats 1000000 in
theorem same_yes (A B : Option Addr) (n c c' : Nat) (xs : List Nat) (w : World) (ha : Sl w A n 1 (flts xs)) (hb : Sl w B n 1 (flts xs)) (hn : n ≤ 9223372036854775807) (hx : ∀ x ∈ xs, Num x) :
    Calls Try.prog 15 #[.slice A n c, .slice B n c'] w fun e w' => e = .returned (.bool true) ∧ w = w' := by
  have hl : xs.length = n := by have := ha.1; simpa [flts] using this
  go_enter Try.func15, Try.ntmps15
  go_wp2
  go_loop [14] (fun i => ∃ k : Nat, k ≤ n ∧ i = .int .i64 k) (fun i => n - (intOf i).toNat)
  case atStart => exact ⟨0, Nat.zero_le _, rfl⟩
  case round =>
    obtain ⟨k, hk, rfl⟩ := hrel
    by_cases hlt : k < n
    · obtain ⟨b, o, v, e1, e2, c1⟩ := ha.at1 hlt
      obtain ⟨b', o', v', e3, e4, c2⟩ := hb.at1 hlt
      rw [e2] at e4
      cases e4
      have hk2 : k < xs.length := by omega
      rw [flts_getD hk2] at e2
      cases e2
      have hxx : FloatKind.f64.format.order (xs.getD k 0) (xs.getD k 0) = some .eq := (hx _ (by simp [hk2])).self
      obtain ⟨x, ex⟩ : ∃ x, x = xs.getD k 0 := ⟨_, rfl⟩
      rw [← ex] at c1 c2 hxx
      clear ex hk2 ha hb hx
      subst e1 e3
      go_wp2
      go_round
      case rel => exact ⟨k + 1, by omega, by go_num⟩
      case measure => simp [intOf]; omega
    · obtain rfl : k = n := by omega
      go_wp2
      go_ret
      exact ⟨rfl, rfl⟩

/-- How many points there are in some lists. -/
def many (ls : List RR) : Nat := (ls.map fun x => x.ps.length).sum

/-- What the laws' look at points tells. -/
def SomeTold (dims : Int) (ls : List RR) (pk : List Int) (w : World) (e : Ending) (w' : World) : Prop :=
  w = w' ∧ ∃ b, e = .returned (.bool b) ∧ (b = true → (∀ x ∈ ls, (∀ p ∈ x.ps, (p.xs.length : Int) = dims ∧ ∀ y ∈ p.xs, ∃ n, Wh y n) ∧ 0 < dims) ∧ dims ≤ 4 ∧ many ls ≤ 120 ∧ pk.length ≤ 80 ∧ ∀ k ∈ pk, 0 ≤ k)

theorem some_no {dims : Int} {ls : List RR} {pk : List Int} {w : World} : SomeTold dims ls pk w (.returned (.bool false)) w := ⟨rfl, false, rfl, fun h => by cases h⟩

set_option maxHeartbeats 4000000 in
theorem some_at (L P : Option Addr) (m cl nk cp : Nat) (dims : Int) (ls : List RR) (pk : List Int) (w : World) (hL : Sl w L m 1 (ls.map RR.v)) (hm : m ≤ 10) (hls : ∀ x ∈ ls, x.Ok w ∧ x.ps.length ≤ 2147483647) (hP : Sl w P nk 1 (ints pk)) (hnk : nk ≤ 2147483647) :
    Calls Try.prog 9 #[.int .i64 dims, .float .f64 4697254411347427328, .slice P nk cp, .slice L m cl] w (SomeTold dims ls pk w) := by
  have hll : ls.length = m := by have := hL.1; simpa using this
  have hpl : pk.length = nk := by have := hP.1; simpa [ints] using this
  have HH := Lib.hid (And.intro hL (And.intro hls (And.intro hP (And.intro hll hpl))))
  clear hL hls hP hll hpl
  go_enter Try.func9, Try.ntmps9
  go_wp2
  go_loop [9, 16] (fun n i => ∃ k s : Nat, k ≤ m ∧ s ≤ k * 2147483647 ∧ n = .int .i64 s ∧ i = .int .i64 k ∧ Hid (s = many (ls.take k) ∧ ∀ x ∈ ls.take k, (∀ p ∈ x.ps, (p.xs.length : Int) = dims ∧ ∀ y ∈ p.xs, ∃ n, Wh y n) ∧ 0 < dims)) (fun _ i => m - (intOf i).toNat)
  case atStart => exact ⟨0, 0, Nat.zero_le _, by omega, rfl, rfl, by simp [many], by simp⟩
  case round =>
    obtain ⟨k, s, hk, hs, rfl, rfl, HR⟩ := hrel
    by_cases hlt : k < m
    · obtain ⟨b, o, v, e1, e2, c1⟩ := HH.out.1.at1 hlt
      have hk2 : k < ls.length := by rw [HH.out.2.2.2.1]; exact hlt
      obtain ⟨x, ex⟩ : ∃ x, x = ls[k] := ⟨_, rfl⟩
      have e3 : (ls.map RR.v)[k]? = some x.v := by rw [ex]; simp [hk2]
      rw [e3] at e2
      cases e2
      have HTK : Hid (ls.take (k + 1) = ls.take k ++ [x]) := by show _ = _; rw [List.take_succ_eq_append_getElem hk2, ex]
      have hxo := HH.out.2.1 x (by rw [ex]; exact List.getElem_mem hk2)
      obtain ⟨A, c, ps⟩ := x
      obtain ⟨q, hq⟩ : ∃ q, ps.length = q := ⟨_, rfl⟩
      have c2 : w.cell? ⟨b, o + k, none⟩ = some (.slice A q c) := by rw [← hq]; exact c1
      have hql : q ≤ 2147483647 := by rw [← hq]; exact hxo.2
      have HX : Hid (Sl w A q 1 (ps.map TP.v) ∧ (∀ p ∈ ps, p.Rd w) ∧ ps.length = q) := ⟨by rw [← hq]; exact hxo.1.1, hxo.1.2.1, hq⟩
      subst e1
      clear c1 e3 ex hk2 hq hxo
      have hadd : IntKind.i64.wrap ((s : Int) + (q : Int)) = (s : Int) + (q : Int) := IntWalk.i64_in _ (by omega)
      go_wp2_with (go_at_call 27; refine (grid_any A q c ps dims _ HX.out.1 (by omega) HX.out.2.1).mono ?_; rintro _ _ ⟨rfl, g, rfl, hg⟩; have HG := Lib.hid hg; clear hg)
      all_goals first
        | (go_ret; exact some_no)
        | (have hgt : g = true := (by first | rfl | assumption | (have h : (!g) = false := (by assumption); simpa using h))
           go_round
           case rel =>
             refine ⟨k + 1, s + q, by omega, by omega, by go_num, by go_num, ?_, ?_⟩
             · rw [HTK.out, HR.out.1]
               simp [many, HX.out.2.2]
             · rw [HTK.out]
               intro z hz
               rcases List.mem_append.1 hz with h | h
               · exact HR.out.2 z h
               · rw [List.mem_singleton.1 h]; exact HG.out hgt
           case measure => simp [intOf]; omega)
    · obtain rfl : k = m := by omega
      have hr1 := HR.out.1
      have hr2 := HR.out.2
      rw [List.take_of_length_le (by rw [HH.out.2.2.2.1]; exact Nat.le_refl _)] at hr1 hr2
      have HR2 := Lib.hid (And.intro hr1 hr2)
      clear hr1 hr2 HR
      go_wp2
      go_loop [32] (fun i => ∃ j : Nat, j ≤ nk ∧ i = .int .i64 j ∧ Hid (∀ x ∈ pk.take j, 0 ≤ x)) (fun i => nk - (intOf i).toNat)
      case atStart => exact ⟨0, Nat.zero_le _, rfl, by show ∀ x ∈ pk.take 0, _; simp⟩
      case round =>
        obtain ⟨j, hj, rfl, HJ⟩ := hrel
        by_cases hlj : j < nk
        · obtain ⟨b, o, v, e1, e2, c1⟩ := HH.out.2.2.1.at1 hlj
          have hj2 : j < pk.length := by rw [HH.out.2.2.2.2]; exact hlj
          obtain ⟨x, ex⟩ : ∃ x, x = pk[j] := ⟨_, rfl⟩
          rw [ints_at (x := x) (by rw [ex]; exact List.getElem?_eq_getElem hj2)] at e2
          cases e2
          have HTK : Hid (pk.take (j + 1) = pk.take j ++ [x]) := by show _ = _; rw [List.take_succ_eq_append_getElem hj2, ex]
          subst e1
          clear ex hj2
          by_cases hx0 : x < 0
          · go_wp2
            go_ret
            exact some_no
          · go_wp2
            go_round
            case rel =>
              refine ⟨j + 1, by omega, by go_num, ?_⟩
              show ∀ x ∈ pk.take (j + 1), _
              rw [HTK.out]
              intro z hz
              rcases List.mem_append.1 hz with h | h
              · exact HJ.out z h
              · rw [List.mem_singleton.1 h]; omega
            case measure => simp [intOf]; omega
        · obtain rfl : j = nk := by omega
          have hj1 := HJ.out
          rw [List.take_of_length_le (by rw [HH.out.2.2.2.2]; exact Nat.le_refl _)] at hj1
          have HJ1 := Lib.hid hj1
          clear hj1 HJ
          by_cases h4 : dims ≤ 4
          · by_cases h5 : (s : Int) ≤ 120
            · by_cases h6 : (j : Int) ≤ 80
              · have d1 : decide (dims ≤ 4) = true := decide_eq_true h4
                have d2 : decide ((s : Int) ≤ 120) = true := decide_eq_true h5
                have d3 : decide ((j : Int) ≤ 80) = true := decide_eq_true h6
                go_wp2
                go_ret
                exact ⟨rfl, _, rfl, fun _ => ⟨HR2.out.2, h4, by rw [← HR2.out.1]; omega, by rw [HH.out.2.2.2.2]; omega, HJ1.out⟩⟩
              · have d1 : decide (dims ≤ 4) = true := decide_eq_true h4
                have d2 : decide ((s : Int) ≤ 120) = true := decide_eq_true h5
                have d3 : decide ((j : Int) ≤ 80) = false := decide_eq_false h6
                go_wp2
                go_ret
                exact some_no
            · have d1 : decide (dims ≤ 4) = true := decide_eq_true h4
              have d2 : decide ((s : Int) ≤ 120) = false := decide_eq_false h5
              go_wp2
              go_ret
              exact some_no
          · have d1 : decide (dims ≤ 4) = false := decide_eq_false h4
            go_wp2
            go_ret
            exact some_no
end Go.Proofs.Ytmeooadgdagiiaa
