/- The walks of the look whether a place lies in the cube, and of the way between two places. Conditions: it does; coordinates from 0 to 2^62 - 1. -/
import Derived.Test.YtidbohofjljkcaaDoorHilPart
import Derived.Test.YtidbohofjljkcaaDoorHilLaw
import Derived.Deep.QuietTactic
namespace Go.Proofs.YtidbohofjljkcaaDoor
open Go.RowKit Lox Hil
set_option linter.unusedVariables false

set_option maxHeartbeats 1000000 in
theorem hiInside_yes (g o d : Nat) (p : List Int) (w : World) (hl : p.length = d) (hd : d ≤ 4) (ho : o ≤ 62) (hin : Ins o p) (hb : Blk w g 3 (ints p)) :
    Calls Tryd.prog 9 #[.int .i64 d, .int .i64 o, .slice (some ⟨g, 0, none⟩) d d] w fun e w' => e = .returned (.bool true) ∧ w = w' := by
  have HL := Lib.hid hl
  clear hl
  have hsh : IntKind.i64.wrap (2 ^ o) = 2 ^ o := by
    have := two_pow_le o ho
    have := two_pow_pos o
    rw [IntKind.wrap_i64]; omega
  have hw : wrap64 (2 ^ o) = 2 ^ o := by
    have := two_pow_le o ho
    have := two_pow_pos o
    unfold wrap64; omega
  go_enter Tryd.func9, Tryd.ntmps9
  go_wp2
  go_loop [11] (fun i => ∃ k : Nat, k ≤ d ∧ i = .int .i64 k) (fun i => d - (intOf i).toNat)
  case atStart => exact ⟨0, Nat.zero_le _, rfl⟩
  case round =>
    obtain ⟨k, hk, rfl⟩ := hrel
    by_cases hlt : k < d
    · have hc : w.cell? ⟨g, k, none⟩ = some (.int .i64 (p.getD k 0)) := at_ints hb (by have := HL.out; omega)
      have hx := hin.getD (i := k) (by have := HL.out; omega)
      obtain ⟨x, ex⟩ : ∃ x, x = p.getD k 0 := ⟨_, rfl⟩
      rw [← ex] at hc hx
      clear ex
      obtain ⟨x0, x1⟩ := hx
      go_wp2
      go_round
      case rel => exact ⟨k + 1, by omega, by go_num⟩
      case measure => simp [intOf]; omega
    · obtain rfl : k = d := by omega
      go_wp2
      go_ret
      exact ⟨by simp, rfl⟩

set_option maxHeartbeats 1000000 in
theorem hiWay_any (g h n d : Nat) (p q : List Int) (w : World) (hp : p.length = d) (hq : q.length = d) (hd : d ≤ 4) (hn : n ≤ 59) (ip : Ins n p) (iq : Ins n q) (hb : Blk w g 3 (ints p)) (hc : Blk w h 3 (ints q)) :
    Calls Tryd.prog 10 #[.slice (some ⟨g, 0, none⟩) d d, .slice (some ⟨h, 0, none⟩) d d] w fun e w' => e = .returned (.int .i64 (way p q)) ∧ ∃ m, w' = w.drewN m := by
  have HL := Lib.hid (And.intro hp hq)
  clear hp hq
  go_enter Tryd.func10, Tryd.ntmps10
  go_wp2
  go_loopw [5, 10] (fun s i wr => ∃ k : Nat, k ≤ d ∧ i = .int .i64 k ∧ s = .int .i64 (way (p.take k) (q.take k)) ∧ (∀ a, wr.cell? a = w.cell? a) ∧ ∃ m, wr = w.drewN m) (fun _ i _ => d - (intOf i).toNat)
  case atStart => exact ⟨0, Nat.zero_le _, rfl, by simp [way], fun _ => rfl, 0, rfl⟩
  case round =>
    obtain ⟨k, hk, rfl, rfl, hcell, m, hm⟩ := hrel
    have HM := Lib.hid hm
    clear hm
    by_cases hlt : k < d
    · have c0 : wr.cell? ⟨g, k, none⟩ = some (.int .i64 (p.getD k 0)) := by rw [hcell]; exact at_ints hb (by have := HL.out; omega)
      have c1 : wr.cell? ⟨h, k, none⟩ = some (.int .i64 (q.getD k 0)) := by rw [hcell]; exact at_ints hc (by have := HL.out; omega)
      clear hcell
      have hx := ip.getD (i := k) (by have := HL.out; omega)
      have hy := iq.getD (i := k) (by have := HL.out; omega)
      have HW := Lib.hid (way_take p q k (by have := HL.out; omega) (by have := HL.out; omega))
      obtain ⟨x, ex⟩ : ∃ x, x = p.getD k 0 := ⟨_, rfl⟩
      obtain ⟨y, ey⟩ : ∃ y, y = q.getD k 0 := ⟨_, rfl⟩
      rw [← ex] at c0 hx HW
      rw [← ey] at c1 hy HW
      clear ex ey
      have hwb := way_bd (p.take k) (q.take k) n (fun z hz => ip z (List.mem_of_mem_take hz)) (fun z hz => iq z (List.mem_of_mem_take hz))
      have h59 : (2 : Int) ^ n ≤ 576460752303423488 := by
        have h : 2 ^ n ≤ 2 ^ 59 := Nat.pow_le_pow_right (by omega) hn
        have h2 : ((2 ^ n : Nat) : Int) ≤ ((2 ^ 59 : Nat) : Int) := by exact_mod_cast h
        rw [Int.natCast_pow] at h2
        simpa using h2
      have hlen : ((p.take k).length : Int) ≤ 4 := by have := List.length_take_le k p; omega
      obtain ⟨s, es⟩ : ∃ s, s = way (p.take k) (q.take k) := ⟨_, rfl⟩
      rw [← es] at hwb HW
      rw [← es]
      clear es
      have hs : 0 ≤ s ∧ s ≤ 2305843009213693952 := by
        refine ⟨hwb.1, Int.le_trans hwb.2 ?_⟩
        have : ((p.take k).length : Int) * 2 ^ n ≤ 4 * 576460752303423488 := Int.mul_le_mul hlen h59 (Int.le_of_lt (two_pow_pos n)) (by omega)
        omega
      have bx : 0 ≤ x ∧ x < 576460752303423488 := by omega
      have byy : 0 ≤ y ∧ y < 576460752303423488 := by omega
      clear hwb hlen hx hy h59
      have k0 : (0 : Int) ≤ k := by omega
      have k1 : (k : Int) < d := by omega
      go_wp2
      go_region
      go_wp2
      go_roundw
      case rel =>
        refine ⟨k + 1, by omega, by go_num, ?_, fun a => by rw [HM.out]; rfl, m + 1, by rw [HM.out]; rfl⟩
        rw [HW.out]
        refine congrArg (Value.int .i64) ?_
        split <;> omega
      case measure => simp [intOf]; omega
    · obtain rfl : k = d := by omega
      clear hcell
      go_wp2
      go_ret
      exact ⟨by rw [List.take_of_length_le (by have := HL.out; omega), List.take_of_length_le (by have := HL.out; omega)]; rfl, m, HM.out⟩
end Go.Proofs.YtidbohofjljkcaaDoor
