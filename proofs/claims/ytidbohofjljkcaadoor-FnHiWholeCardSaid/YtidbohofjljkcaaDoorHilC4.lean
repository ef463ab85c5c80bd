/- The walk of the place of a position on the Hilbert curve of four dimensions, with no place handed in. Conditions: orders up to 15, a position from 0 on. -/
import Derived.Test.YtidbohofjljkcaaDoorHilRot4
import Derived.Test.YtidbohofjljkcaaDoorHilC2
namespace Go.Proofs.YtidbohofjljkcaaDoor
open Go.RowKit Lox Hil

set_option maxHeartbeats 1000000 in
theorem coord4 (o P : Nat) (w : World) (ho : o ≤ 15) (hP : P < 9223372036854775808) :
    Calls Tryd.prog 18 #[.agg #[.int .i64 o], .slice none 0 0, .int .i64 P] w (NewInts (place 4 o P) w) := by
  have HP := Lib.hid hP
  clear hP
  have qT : ∀ (w : World) (a : Option Addr) (n c n' c' : Nat), (binOp .eql 26 (.slice a n c) (.slice none n' c')).run Tryd.prog w = .ok (.bool a.isNone) w := fun w a n c n' c' => Lib.run_eql_slice_nil w _ _ a n c n' c' Tryd.underlying26
  have hmk : ∀ w : World, (Instr.makeSlice 26 (.int .i64 4) (.int .i64 4)).run Tryd.prog w = .ok (.slice (some ⟨w.heap.size, 0, none⟩) 4 4) (w.alloc (.cells #[.int .i64 0, .int .i64 0, .int .i64 0, .int .i64 0] 3)) := fun _ => by kernel_rfl
  go_enter Tryd.func18, Tryd.ntmps18
  go_wp2
  obtain ⟨g, hg⟩ : ∃ g, g = w.heap.size + 1 := ⟨_, rfl⟩
  rw [← hg]
  have HG := Lib.hid hg
  go_loopw [2, 8] (fun p n wr => ∃ k : Nat, k ≤ o ∧ n = .int .i64 k ∧ p = .int .i64 ((P / (2 ^ 4) ^ k : Nat) : Int) ∧ Blk wr g 3 (ints (place 4 k P)) ∧ Blk wr w.heap.size 45 [.int .i64 o] ∧ Mod (fun _ => False) w wr) (fun _ n _ => o - (intOf n).toNat)
  case atStart =>
    refine ⟨0, Nat.zero_le _, rfl, by simp, ?_, ?_, ?_⟩
    · have := Blk.new' (w.alloc (.cells #[.int .i64 o] 45)) #[.int .i64 0, .int .i64 0, .int .i64 0, .int .i64 0] 3
      simp only [World.size_alloc] at this
      rw [hg]; exact this
    · exact (Blk.new' w #[.int .i64 o] 45).alloc _
    · exact ((Mod.refl _ _).alloc _).alloc _
  clear hg
  case round =>
    obtain ⟨k, hk, rfl, rfl, hb, hh, hM⟩ := hrel
    have h0 := hh.at (i := 0) rfl
    by_cases hlt : k < o
    · have hA := digit_and 4 P k (by decide) HP.out
      have he := digit_lt 4 k P
      have HD := Lib.hid (div_step P 4 k)
      have HL : Hid (place 4 (k + 1) P = addc k (digit 4 k P) 0 (rot4 k (digit 4 k P) (place 4 k P))) := rfl
      obtain ⟨e, heq⟩ : ∃ e : Nat, e = digit 4 k P := ⟨_, rfl⟩
      obtain ⟨Q, hQ⟩ : ∃ Q : Nat, Q = P / (2 ^ 4) ^ k := ⟨_, rfl⟩
      rw [← heq] at hA HL he
      rw [← hQ] at hA HD
      rw [← hQ]
      clear heq hQ
      replace hA : bits .and .i64 (Q : Int) 15 = (e : Int) := hA
      replace he : e < 16 := he
      go_wp2_with fail
      go_region_with (go_at_call 21; refine (rot4_any g k e _ _ _ (place 4 k P) _ rfl rfl he (by omega) (place_len _ _ _) (place_ins _ _ _) hb.drew).mono ?_; rintro _ w1 ⟨rfl, hb1, hm1⟩)
      have hin1 : Ins k (rot4 k e (place 4 k P)) := rot4_ins (place_len _ _ _) (place_ins _ _ _)
      have hl1 : (rot4 k e (place 4 k P)).length = 4 := by rw [rot4_len, place_len]
      obtain ⟨v0, v1, v2, v3, hv⟩ : ∃ v0 v1 v2 v3, rot4 k e (place 4 k P) = [v0, v1, v2, v3] := by
        match rot4 k e (place 4 k P), hl1 with
        | [a, b, c, d], _ => exact ⟨a, b, c, d, rfl⟩
      rw [hv] at hb1 hin1 HL
      clear hv hl1
      go_wp2_with fail
      obtain ⟨wo, hwo⟩ : ∃ wo : World, wo = wr.drew := ⟨_, rfl⟩
      rw [← hwo] at hm1
      replace hh : Blk wo w.heap.size 45 [.int .i64 o] := by rw [hwo]; exact hh
      replace hM : Mod (fun _ => False) w wo := by rw [hwo]; exact hM.drew
      clear hwo hb h0
      go_loopw [10, 11] (fun i x w2 => ∃ m : Nat, m ≤ 4 ∧ i = .int .i64 m ∧ x = .int .i64 ((e / 2 ^ m : Nat) : Int) ∧ Blk w2 g 3 (ints (padd k e m [v0, v1, v2, v3])) ∧ Mod (fun x => x = g) wo w2) (fun i _ _ => 4 - (intOf i).toNat)
      case atStart =>
        exact ⟨0, by decide, rfl, by simp, hb1, hm1⟩
      case round =>
        obtain ⟨m, hm, rfl, rfl, hb2, hm2⟩ := hrel
        by_cases hlm : m < 4
        · have hv := padd4_at k e m v0 v1 v2 v3 hlm
          have hi : 0 ≤ [v0, v1, v2, v3].getD m 0 ∧ [v0, v1, v2, v3].getD m 0 < 2 ^ k := hin1.getD (by simpa using hlm)
          have HP4 := Lib.hid (padd4 k e m v0 v1 v2 v3 hlm)
          have HG4 := Lib.hid (gb4_k e m he hlm)
          have hys : e / 2 ^ m < 16 := Nat.lt_of_le_of_lt (Nat.div_le_self _ _) he
          have HS4 : Hid (e / 2 ^ m / 2 = e / 2 ^ (m + 1)) := by show _ = _; rw [Nat.div_div_eq_div_mul, Nat.pow_succ]
          obtain ⟨y, hy⟩ : ∃ y : Nat, y = e / 2 ^ m := ⟨_, rfl⟩
          rw [← hy] at HG4 hys HS4
          rw [← hy]
          clear hy
          have hR := gray_bit y (y / 2) (by omega) (by omega)
          have hY : (y : Int) / 2 = ((y / 2 : Nat) : Int) := by omega
          obtain ⟨z, hz⟩ : ∃ z : Nat, z = y / 2 := ⟨_, rfl⟩
          rw [← hz] at hR hY HG4 HS4
          clear hz
          obtain ⟨r, hr⟩ : ∃ r : Nat, r = (y ^^^ z) % 2 := ⟨_, rfl⟩
          rw [← hr] at hR HG4
          have hr2 : r < 2 := by omega
          clear hr
          obtain ⟨v, hv'⟩ : ∃ v : Int, v = [v0, v1, v2, v3].getD m 0 := ⟨_, rfl⟩
          rw [← hv'] at hv hi HP4
          clear hv'
          have c0 : wr.cell? ⟨g, m, none⟩ = some (.int .i64 v) := hb2.at (ints_at hv)
          have f0 := hb2.frozen m
          go_wp2_with fail
          go_region
          go_wp2_with fail
          go_roundw
          case rel =>
            refine ⟨m + 1, by omega, by go_num, by rw [← HS4.out], ?_, ?_⟩
            · have hb3 := hb2.set m (.int .i64 (wrap64 (v + wrap64 (r * 2 ^ k))))
              rw [wrap_step k r v (by omega) hr2 hi, ints_set] at hb3
              rw [wrap_step k r v (by omega) hr2 hi, HP4.out, HG4.out]
              exact hb3
            · exact (hm2.set (.inl rfl) _).drew
          case measure => simp [intOf]; omega
        · obtain rfl : m = 4 := by omega
          go_wp2_with fail
          go_roundw
          case rel =>
            refine ⟨k + 1, by omega, by go_num, ?_, ?_, ?_, ?_⟩
            · rw [← HD.out]; exact congrArg (Value.int .i64) (by simp)
            · rw [HL.out]; exact hb2
            · have hne : w.heap.size ≠ g := by have := HG.out; omega
              exact hh.mod hm2 hne
            · have hge : w.heap.size ≤ g := by have := HG.out; omega
              exact hM.trans' hm2 (fun i hi h => by omega)
          case measure => simp [intOf]; omega
    · obtain rfl : k = o := by omega
      go_wp2_with fail
      go_ret
      exact ret_ints (place_len _ _ _) (by have := HG.out; omega) hb hM
end Go.Proofs.YtidbohofjljkcaaDoor
