/- Squared distances as float numbers, infinite or whole; math.Inf, math.Min. Conditions: as each says. -/
import Derived.Test.YtmeooadgdagiiaaTbNum
import Derived.Test.YtmeooadgdagiiaaRows
namespace Lox
open Go Go.RowKit
set_option linter.unusedVariables false

def INFB : Nat := 9218868437227405312

theorem inf_dec : FloatKind.f64.decode INFB = .infinity false := by decide +kernel

/-- A squared distance: infinite, or a whole number from 0 on. -/
def DV (x : Nat) : Option Int → Prop
  | none => x = INFB
  | some n => Gd 0 x n ∧ 0 ≤ n ∧ n ≤ 1125899906842624

def olt : Option Int → Option Int → Bool
  | none, _ => false
  | some _, none => true
  | some a, some b => decide (a < b)

def omin (a b : Option Int) : Option Int := if olt a b then a else b

theorem DV.num {x : Nat} {n : Int} (h : DV x (some n)) : ∃ s m i, FloatKind.f64.decode x = .number s m i := h.1.1

theorem DV.lt {x y : Nat} {d e : Option Int} (hx : DV x d) (hy : DV y e) : (FloatKind.f64.format.order x y == some .lt) = olt d e := by
  show ((FloatKind.f64.decode x).order (FloatKind.f64.decode y) == some .lt) = _
  cases d with
  | none =>
    have hx : x = INFB := hx
    rw [hx, inf_dec]
    cases e with
    | none => have hy : y = INFB := hy; rw [hy, inf_dec]; decide
    | some b => obtain ⟨s, m, i, e⟩ := hy.num; rw [e]; rfl
  | some a =>
    cases e with
    | none => have hy : y = INFB := hy; obtain ⟨s, m, i, e⟩ := hx.num; rw [hy, inf_dec, e]; rfl
    | some b =>
      have := hx.1.lt hy.1
      exact this

theorem dv_order {x y : Nat} {d e : Option Int} (hx : DV x d) (hy : DV y e) : ∃ o, (FloatKind.f64.decode x).order (FloatKind.f64.decode y) = some o := by
  have hn : ∀ (x : Nat) (d : Option Int), DV x d → (FloatKind.f64.decode x).isNaN = false := fun x d h => by
    cases d with
    | none => have h : x = INFB := h; rw [h, inf_dec]; rfl
    | some n => obtain ⟨s, m, i, e⟩ := h.num; rw [e]; rfl
  have h1 := hn x d hx
  have h2 := hn y e hy
  cases ha : FloatKind.f64.decode x <;> cases hb : FloatKind.f64.decode y <;> simp [Ieee.Datum.order, Ieee.Datum.isNaN, ha, hb] at h1 h2 ⊢

theorem gd_zero {x : Nat} {n : Int} (h : Gd 0 x n) (hz : (FloatKind.f64.decode x).isZero = true) : n = 0 := by
  have hz0 : Gd 0 0 0 := gd0_of_is is_zero
  have h1 := h.eq hz0
  obtain ⟨s, m, i, e⟩ := h.1
  rw [e] at hz
  have hm : m = 0 := by
    cases m with
    | zero => rfl
    | succ m => exact absurd hz (by simp [Ieee.Datum.isZero])
  subst hm
  have hv : vl x = 0 := by unfold vl; rw [e]; simp [dv]
  have h2 := or_eq h.1 hz0.1
  have hv0 : vl 0 = 0 := by rw [is_zero.2]; rfl
  rw [hv, hv0] at h2
  rw [h2] at h1
  simpa using h1

theorem dv_min {x y : Nat} {d e : Option Int} (hx : DV x d) (hy : DV y e) : ∃ r, Extern.MathDim.pick "math.archMin" true .lt #[.float .f64 x, .float .f64 y] = pure (.float .f64 r) ∧ DV r (omin d e) := by
  have hlt := hx.lt hy
  have hni : ∀ (x : Nat) (d : Option Int), DV x d → (FloatKind.f64.decode x == .infinity true) = false ∧ (FloatKind.f64.decode x).isNaN = false := fun x d h => by
    cases d with
    | none => have h : x = INFB := h; rw [h, inf_dec]; exact ⟨by decide, rfl⟩
    | some n => obtain ⟨s, m, i, e⟩ := h.num; rw [e]; exact ⟨rfl, rfl⟩
  obtain ⟨a1, a2⟩ := hni x d hx
  obtain ⟨b1, b2⟩ := hni y e hy
  have key : ∀ a b, FloatKind.f64.decode x = a → FloatKind.f64.decode y = b → Extern.MathDim.pick "math.archMin" true .lt #[.float .f64 x, .float .f64 y] = pure (.float .f64 (if a == .infinity true || b == .infinity true then FloatKind.f64.encode (.infinity true) else if a.isNaN || b.isNaN then 0x7FF8000000000001 else if a.isZero && b.isZero then (if a.neg == true then x else y) else if a.order b == some .lt then x else y)) := by
    rintro a b rfl rfl
    rfl
  have hk := key _ _ rfl rfl
  rw [hk]
  simp only [a1, a2, b1, b2, Bool.or_false, Bool.false_eq_true, if_false]
  by_cases hz : ((FloatKind.f64.decode x).isZero && (FloatKind.f64.decode y).isZero) = true
  · rw [if_pos hz]
    rw [Bool.and_eq_true] at hz
    have hd : d = some 0 := by
      cases d with
      | none => have h : x = INFB := hx; rw [h, inf_dec] at hz; cases hz.1
      | some n => rw [gd_zero hx.1 hz.1]
    have he : e = some 0 := by
      cases e with
      | none => have h : y = INFB := hy; rw [h, inf_dec] at hz; cases hz.2
      | some n => rw [gd_zero hy.1 hz.2]
    subst hd he
    refine ⟨_, rfl, ?_⟩
    have : omin (some 0) (some 0) = some 0 := rfl
    rw [this]
    split
    · exact hx
    · exact hy
  · rw [if_neg hz]
    refine ⟨_, rfl, ?_⟩
    have hlt' : ((FloatKind.f64.decode x).order (FloatKind.f64.decode y) == some .lt) = olt d e := hlt
    rw [hlt']
    unfold omin
    split
    · exact hx
    · exact hy
end Lox
namespace Go.Proofs.Ytmeooadgdagiiaa
open Go.RowKit Lox
set_option linter.unusedVariables false

theorem run_frombits (w : World) : (callFunc 77 #[.int .u64 9218868437227405312]).run Try.prog w = .ok (.value (.float .f64 INFB)) w := by
  rw [run_callFunc_extern Try.func77 (by kernel_rfl) (by kernel_rfl) (by kernel_rfl) (e := Extern.MathFloatBits.float64frombits) (by kernel_rfl)]
  kernel_rfl

set_option maxHeartbeats 400000 in
theorem inf_at (w : World) : Calls Try.prog 69 #[.int .i64 1] w fun e w' => e = .returned (.float .f64 INFB) ∧ w = w' := by
  have hf := run_frombits
  go_enter Try.func69, Try.ntmps69
  go_wp2
  go_ret
  exact ⟨rfl, rfl⟩

theorem run_min (x y : Nat) {d e : Option Int} (hx : DV x d) (hy : DV y e) : ∃ r, DV r (omin d e) ∧ ∀ w : World, (callFunc 84 #[.float .f64 x, .float .f64 y]).run Try.prog w = .ok (.value (.float .f64 r)) w := by
  obtain ⟨r, h1, h2⟩ := dv_min hx hy
  refine ⟨r, h2, fun w => ?_⟩
  rw [run_callFunc_extern Try.func84 (by kernel_rfl) (by kernel_rfl) (by kernel_rfl) (e := Extern.MathDim.pick "math.archMin" true .lt) (by kernel_rfl), h1]
  rfl

set_option maxHeartbeats 400000 in
theorem min_at (x y : Nat) (d e : Option Int) (w : World) (hx : DV x d) (hy : DV y e) : Calls Try.prog 78 #[.float .f64 x, .float .f64 y] w fun e' w' => (∃ r, e' = .returned (.float .f64 r) ∧ DV r (omin d e)) ∧ w = w' := by
  obtain ⟨r, h1, hf⟩ := run_min x y hx hy
  have H1 := Lib.hid h1
  clear h1 hx hy
  go_enter Try.func78, Try.ntmps78
  go_wp2
  go_ret
  exact ⟨⟨r, rfl, H1.out⟩, rfl⟩
end Go.Proofs.Ytmeooadgdagiiaa
