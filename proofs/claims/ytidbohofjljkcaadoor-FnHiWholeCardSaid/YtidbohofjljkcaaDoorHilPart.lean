/- The walks of the guards on a curve's order and on a part of it. Conditions: none. -/
import Derived.Test.YtidbohofjljkcaaDoorHilWalk
import Derived.Test.YtidbohofjljkcaaDoorIntMap
namespace Go.Proofs.YtidbohofjljkcaaDoor
open Go.RowKit Lox Hil
set_option linter.unusedVariables false

def most (d : Int) : Int := if d = 2 then 31 else if d = 3 then 20 else if d = 4 then 15 else 0

def es1 : Array MapEntry := #[⟨.int .i64 2, .int .i64 31, 0⟩]
def es2 : Array MapEntry := #[⟨.int .i64 2, .int .i64 31, 0⟩, ⟨.int .i64 3, .int .i64 20, 1⟩]
def es3 : Array MapEntry := #[⟨.int .i64 2, .int .i64 31, 0⟩, ⟨.int .i64 3, .int .i64 20, 1⟩, ⟨.int .i64 4, .int .i64 15, 2⟩]

theorem look_most (d : Int) (w : World) (r : Nat) (h : w.heap[r]? = some (.map es3 3)) :
    (Instr.lookup 48 (.map (some r)) (.int .i64 d) false).run Tryd.prog w = .ok (.int .i64 (most d)) w := by
  unfold most
  by_cases h2 : d = 2
  · subst h2; exact run_get Tryd.underlying48 Tryd.underlying3 h (i := 0) rfl
  by_cases h3 : d = 3
  · subst h3; exact run_get Tryd.underlying48 Tryd.underlying3 h (i := 1) rfl
  by_cases h4 : d = 4
  · subst h4; exact run_get Tryd.underlying48 Tryd.underlying3 h (i := 2) rfl
  rw [if_neg h2, if_neg h3, if_neg h4]
  refine run_get_none Tryd.underlying48 Tryd.underlying3 h (by kernel_rfl) ?_
  have b2 : (d == 2) = false := by simpa using h2
  have b3 : (d == 3) = false := by simpa using h3
  have b4 : (d == 4) = false := by simpa using h4
  show (match some (d == 2) with
    | some true => some (some (0, Value.int IntKind.i64 31))
    | some false => match some (d == 3) with
      | some true => some (some (1, Value.int IntKind.i64 20))
      | some false => match some (d == 4) with
        | some true => some (some (2, Value.int IntKind.i64 15))
        | some false => some none
        | none => none
      | none => none
    | none => none) = some none
  rw [b2, b3, b4]

theorem hiOrder_gen (d o : Int) (w : World) (c : Bool) (hc : c = decide (1 ≤ o ∧ o ≤ most d)) :
    Calls Tryd.prog 11 #[.int .i64 d, .int .i64 o] w fun e w' => e = .returned (.tuple #[.int .i64 (wrap64 (d * o)), .bool c]) ∧ Mod (fun _ => False) w w' := by
  have hmm := @run_makeMap Tryd.prog
  have e1 : (Instr.mapUpdate 48 (.map (some w.heap.size)) (.int .i64 2) (.int .i64 31)).run Tryd.prog (w.alloc (.map #[] 0)) = .ok () (putMap (w.alloc (.map #[] 0)) w.heap.size es1 1) :=
    run_put Tryd.underlying48 Tryd.underlying3 (heap_alloc_new w _) rfl
  have e2 : (Instr.mapUpdate 48 (.map (some w.heap.size)) (.int .i64 3) (.int .i64 20)).run Tryd.prog (putMap (w.alloc (.map #[] 0)) w.heap.size es1 1) = .ok () (putMap (putMap (w.alloc (.map #[] 0)) w.heap.size es1 1) w.heap.size es2 2) :=
    run_put Tryd.underlying48 Tryd.underlying3 (putMap_at _ _ (by simp)) rfl
  have e3 : (Instr.mapUpdate 48 (.map (some w.heap.size)) (.int .i64 4) (.int .i64 15)).run Tryd.prog (putMap (putMap (w.alloc (.map #[] 0)) w.heap.size es1 1) w.heap.size es2 2) = .ok () (putMap (putMap (putMap (w.alloc (.map #[] 0)) w.heap.size es1 1) w.heap.size es2 2) w.heap.size es3 3) :=
    run_put Tryd.underlying48 Tryd.underlying3 (putMap_at _ _ (by simp [putMap_size])) rfl
  have e4 := look_most d (putMap (putMap (putMap (w.alloc (.map #[] 0)) w.heap.size es1 1) w.heap.size es2 2) w.heap.size es3 3) w.heap.size (putMap_at _ _ (by simp [putMap_size]))
  obtain ⟨m, hm⟩ : ∃ m, m = most d := ⟨_, rfl⟩
  rw [← hm] at e4 hc
  clear hm
  have hM : Mod (fun _ => False) w (putMap (putMap (putMap (w.alloc (.map #[] 0)) w.heap.size es1 1) w.heap.size es2 2) w.heap.size es3 3) :=
    ((((Mod.refl _ _).alloc _).putMap (Nat.le_refl _) _ _).putMap (Nat.le_refl _) _ _).putMap (Nat.le_refl _) _ _
  have HM := Lib.hid hM
  clear hM
  have HC := Lib.hid hc
  clear hc
  by_cases h1 : 1 ≤ o
  · by_cases h2 : o ≤ m
    · have HD : Hid (decide (1 ≤ o ∧ o ≤ m) = true) := by simp [Hid, h1, h2]
      go_enter Tryd.func11, Tryd.ntmps11
      go_wp2
      go_ret2
      exact ⟨by rw [HC.out, HD.out]; rfl, HM.out⟩
    · have HD : Hid (decide (1 ≤ o ∧ o ≤ m) = false) := by simp [Hid, h2]
      go_enter Tryd.func11, Tryd.ntmps11
      go_wp2
      go_ret2
      exact ⟨by rw [HC.out, HD.out]; rfl, HM.out⟩
  · have HD : Hid (decide (1 ≤ o ∧ o ≤ m) = false) := by simp [Hid, h1]
    have h1' : o < 1 := by omega
    go_enter Tryd.func11, Tryd.ntmps11
    go_wp2
    go_ret2
    exact ⟨by rw [HC.out, HD.out]; rfl, HM.out⟩


/-- A part of a curve that is asked of. -/
def Part (d o fr n : Int) : Prop := 1 ≤ o ∧ o ≤ most d ∧ 0 ≤ fr ∧ 1 ≤ n ∧ n ≤ 300 ∧ fr ≤ 2 ^ (d * o).toNat - n

theorem most_cases (d o : Int) (h1 : 1 ≤ o) (h2 : o ≤ most d) : (d = 2 ∧ o ≤ 31) ∨ (d = 3 ∧ o ≤ 20) ∨ (d = 4 ∧ o ≤ 15) := by
  unfold most at h2
  split at h2
  · left; omega
  split at h2
  · right; left; omega
  split at h2
  · right; right; omega
  · omega

theorem bits_of (d o : Int) (h1 : 1 ≤ o) (h2 : o ≤ most d) : ∃ b : Nat, b ≤ 62 ∧ d * o = b ∧ wrap64 (d * o) = b := by
  rcases most_cases d o h1 h2 with ⟨rfl, h⟩ | ⟨rfl, h⟩ | ⟨rfl, h⟩
  · exact ⟨(2 * o).toNat, by omega, by omega, by unfold wrap64; omega⟩
  · exact ⟨(3 * o).toNat, by omega, by omega, by unfold wrap64; omega⟩
  · exact ⟨(4 * o).toNat, by omega, by omega, by unfold wrap64; omega⟩

set_option maxHeartbeats 1000000 in
theorem hiPart_any (d o fr n : Int) (w : World) (c : Bool) (hc : c = true ↔ Part d o fr n) :
    Calls Tryd.prog 7 #[.int .i64 d, .int .i64 o, .int .i64 fr, .int .i64 n] w fun e w' => e = .returned (.bool c) ∧ Mod (fun _ => False) w w' := by
  by_cases h0 : 1 ≤ o ∧ o ≤ most d
  · have HO : Hid (true = decide (1 ≤ o ∧ o ≤ most d)) := by simp [Hid, h0]
    obtain ⟨b, hb, hbd, hbw⟩ := bits_of d o h0.1 h0.2
    have hp := two_pow_le b hb
    have hp0 := two_pow_pos b
    have hpart : Part d o fr n ↔ (0 ≤ fr ∧ 1 ≤ n ∧ n ≤ 300 ∧ fr ≤ 2 ^ b - n) := by
      unfold Part
      rw [hbd, Int.toNat_natCast]
      exact ⟨fun h => h.2.2, fun h => ⟨h0.1, h0.2, h⟩⟩
    rw [hpart] at hc
    clear hpart hbd h0
    have HP := Lib.hid (And.intro hp hp0)
    have hsh : IntKind.i64.wrap (2 ^ b) = 2 ^ b := by rw [IntKind.wrap_i64]; omega
    by_cases h1 : 0 ≤ fr
    · by_cases h2 : 1 ≤ n
      · by_cases h3 : n ≤ 300
        · have hs : IntKind.i64.wrap (2 ^ b - n) = 2 ^ b - n := by rw [IntKind.wrap_i64]; omega
          clear hp hp0
          by_cases h4 : fr ≤ 2 ^ b - n
          · have HC : Hid (c = true) := hc.2 ⟨h1, h2, h3, h4⟩
            clear hc
            go_enter Tryd.func7, Tryd.ntmps7
            go_wp2_with (go_at_call 11; refine (hiOrder_gen d o _ _ HO.out).mono ?_; rintro _ w1 ⟨rfl, hm1⟩)
            go_ret
            exact ⟨by rw [HC.out]; rfl, hm1⟩
          · have h4' : 2 ^ b - n < fr := by omega
            have HC : Hid (c = false) := by cases c with | false => rfl | true => exact absurd (hc.1 rfl) (by omega)
            clear hc
            go_enter Tryd.func7, Tryd.ntmps7
            go_wp2_with (go_at_call 11; refine (hiOrder_gen d o _ _ HO.out).mono ?_; rintro _ w1 ⟨rfl, hm1⟩)
            go_ret
            exact ⟨by rw [HC.out]; exact congrArg (fun x => Ending.returned (Value.bool x)) (decide_eq_false (by omega)), hm1⟩
        · have h3' : 300 < n := by omega
          have HC : Hid (c = false) := by cases c with | false => rfl | true => exact absurd (hc.1 rfl) (by omega)
          clear hp hp0
          clear hc
          go_enter Tryd.func7, Tryd.ntmps7
          go_wp2_with (go_at_call 11; refine (hiOrder_gen d o _ _ HO.out).mono ?_; rintro _ w1 ⟨rfl, hm1⟩)
          go_ret
          exact ⟨by rw [HC.out]; rfl, hm1⟩
      · have h2' : n < 1 := by omega
        have HC : Hid (c = false) := by cases c with | false => rfl | true => exact absurd (hc.1 rfl) (by omega)
        clear hp hp0
        clear hc
        go_enter Tryd.func7, Tryd.ntmps7
        go_wp2_with (go_at_call 11; refine (hiOrder_gen d o _ _ HO.out).mono ?_; rintro _ w1 ⟨rfl, hm1⟩)
        go_ret
        exact ⟨by rw [HC.out]; rfl, hm1⟩
    · have h1' : fr < 0 := by omega
      have HC : Hid (c = false) := by cases c with | false => rfl | true => exact absurd (hc.1 rfl) (by omega)
      clear hp hp0
      clear hc
      go_enter Tryd.func7, Tryd.ntmps7
      go_wp2_with (go_at_call 11; refine (hiOrder_gen d o _ _ HO.out).mono ?_; rintro _ w1 ⟨rfl, hm1⟩)
      go_ret
      exact ⟨by rw [HC.out]; rfl, hm1⟩
  · have HO : Hid (false = decide (1 ≤ o ∧ o ≤ most d)) := by simp [Hid, h0]
    have HC : Hid (c = false) := by cases c with | false => rfl | true => exact absurd ⟨(hc.1 rfl).1, (hc.1 rfl).2.1⟩ h0
    clear h0
    clear hc
    go_enter Tryd.func7, Tryd.ntmps7
    go_wp2_with (go_at_call 11; refine (hiOrder_gen d o _ _ HO.out).mono ?_; rintro _ w1 ⟨rfl, hm1⟩)
    go_ret
    exact ⟨by rw [HC.out]; rfl, hm1⟩
end Go.Proofs.YtidbohofjljkcaaDoor
