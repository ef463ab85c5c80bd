/- The walk of the place of a position on the Hilbert curve of three dimensions, with no place handed in. Conditions: orders up to 20, a position from 0 on. -/
import Derived.Test.YtidbohofjljkcaaDoorHilRot3
import Derived.Test.YtidbohofjljkcaaDoorHilC2
namespace Go.Proofs.YtidbohofjljkcaaDoor
open Go.RowKit Lox Hil

set_option maxHeartbeats 1000000 in
theorem coord3 (o P : Nat) (w : World) (ho : o ≤ 20) (hP : P < 9223372036854775808) :
    Calls Tryd.prog 16 #[.agg #[.int .i64 o], .slice none 0 0, .int .i64 P] w (NewInts (place 3 o P) w) := by
  have HP := Lib.hid hP
  clear hP
  have qT : ∀ (w : World) (a : Option Addr) (n c n' c' : Nat), (binOp .eql 26 (.slice a n c) (.slice none n' c')).run Tryd.prog w = .ok (.bool a.isNone) w := fun w a n c n' c' => Lib.run_eql_slice_nil w _ _ a n c n' c' Tryd.underlying26
  have hmk : ∀ w : World, (Instr.makeSlice 26 (.int .i64 3) (.int .i64 3)).run Tryd.prog w = .ok (.slice (some ⟨w.heap.size, 0, none⟩) 3 3) (w.alloc (.cells #[.int .i64 0, .int .i64 0, .int .i64 0] 3)) := fun _ => by kernel_rfl
  go_enter Tryd.func16, Tryd.ntmps16
  go_wp2
  obtain ⟨g, hg⟩ : ∃ g, g = w.heap.size + 1 := ⟨_, rfl⟩
  rw [← hg]
  have HG := Lib.hid hg
  go_loopw [2, 7] (fun p n wr => ∃ k : Nat, k ≤ o ∧ n = .int .i64 k ∧ p = .int .i64 ((P / (2 ^ 3) ^ k : Nat) : Int) ∧ Blk wr g 3 (ints (place 3 k P)) ∧ Blk wr w.heap.size 42 [.int .i64 o] ∧ Mod (fun _ => False) w wr) (fun _ n _ => o - (intOf n).toNat)
  case atStart =>
    refine ⟨0, Nat.zero_le _, rfl, by simp, ?_, ?_, ?_⟩
    · have := Blk.new' (w.alloc (.cells #[.int .i64 o] 42)) #[.int .i64 0, .int .i64 0, .int .i64 0] 3
      simp only [World.size_alloc] at this
      rw [hg]; exact this
    · exact (Blk.new' w #[.int .i64 o] 42).alloc _
    · exact ((Mod.refl _ _).alloc _).alloc _
  clear hg
  case round =>
    obtain ⟨k, hk, rfl, rfl, hb, hh, hM⟩ := hrel
    have h0 := hh.at (i := 0) rfl
    by_cases hlt : k < o
    · have hA := digit_and 3 P k (by decide) HP.out
      have he := digit_lt 3 k P
      have HD := Lib.hid (div_step P 3 k)
      have HL : Hid (place 3 (k + 1) P = addc k (digit 3 k P) 0 (rot3 k (digit 3 k P) (place 3 k P))) := rfl
      obtain ⟨e, heq⟩ : ∃ e : Nat, e = digit 3 k P := ⟨_, rfl⟩
      obtain ⟨Q, hQ⟩ : ∃ Q : Nat, Q = P / (2 ^ 3) ^ k := ⟨_, rfl⟩
      rw [← heq] at hA HL he
      rw [← hQ] at hA HD
      rw [← hQ]
      clear heq hQ
      replace hA : bits .and .i64 (Q : Int) 7 = (e : Int) := hA
      replace he : e < 8 := he
      have hY : (e : Int) / 2 = ((e / 2 : Nat) : Int) := by omega
      have hZ : (e : Int) / 4 = ((e / 4 : Nat) : Int) := by omega
      have hR := gray_bit e (e / 2) (by omega) (by omega)
      have hS := gray_bit (e / 2) (e / 4) (by omega) (by omega)
      have HYR := Lib.hid (And.intro (gb3_0 e he) (And.intro (gb3_1 e he) (gb3_2 e he)))
      obtain ⟨y, hy⟩ : ∃ y : Nat, y = e / 2 := ⟨_, rfl⟩
      obtain ⟨z, hz⟩ : ∃ z : Nat, z = e / 4 := ⟨_, rfl⟩
      rw [← hy] at hY hR hS HYR
      rw [← hz] at hZ hS HYR
      obtain ⟨r, hr⟩ : ∃ r : Nat, r = (e ^^^ y) % 2 := ⟨_, rfl⟩
      obtain ⟨s, hs⟩ : ∃ s : Nat, s = (y ^^^ z) % 2 := ⟨_, rfl⟩
      rw [← hr] at hR HYR
      rw [← hs] at hS HYR
      have hz2 : z < 2 := by omega
      have hr2 : r < 2 := by omega
      have hs2 : s < 2 := by omega
      clear hy hz hr hs
      go_wp2_with fail
      go_region_with (go_at_call 20; refine (rot3_any g k e _ _ _ (place 3 k P) _ rfl rfl he (by omega) (place_len _ _ _) (place_ins _ _ _) hb.drew).mono ?_; rintro _ w1 ⟨rfl, hb1, hm1⟩)
      have hin1 : Ins k (rot3 k e (place 3 k P)) := rot3_ins (place_len _ _ _) (place_ins _ _ _)
      have hl1 : (rot3 k e (place 3 k P)).length = 3 := by rw [rot3_len, place_len]
      obtain ⟨v0, v1, v2, hv⟩ : ∃ v0 v1 v2, rot3 k e (place 3 k P) = [v0, v1, v2] := by
        match rot3 k e (place 3 k P), hl1 with
        | [a, b, c], _ => exact ⟨a, b, c, rfl⟩
      rw [hv] at hb1 hin1 HL
      clear hv hl1
      have b0 := hin1 v0 (by simp)
      have b1 := hin1 v1 (by simp)
      have b2 := hin1 v2 (by simp)
      have c0 := hb1.at (i := 0) rfl
      have f0 := hb1.frozen 0
      go_wp2_with fail
      go_region
      go_wp2_with fail
      have hb2 := (hb1.set 0 (.int .i64 (wrap64 (v0 + wrap64 (r * 2 ^ k))))).drew
      have hm2 : Mod (fun x => x = g) wr.drew (w1.setCell ⟨g, 0, none⟩ (.int .i64 (wrap64 (v0 + wrap64 (r * 2 ^ k))))).drew := (hm1.set (.inl rfl) _).drew
      generalize (w1.setCell ⟨g, 0, none⟩ (.int .i64 (wrap64 (v0 + wrap64 (r * 2 ^ k))))).drew = W2 at hb2 hm2 ⊢
      rw [wrap_step k r v0 (by omega) hr2 b0] at hb2
      clear c0 f0 hb1 hm1
      have c1 := hb2.at (i := 1) rfl
      have f1 := hb2.frozen 1
      go_region
      go_wp2_with fail
      have hb3 := (hb2.set 1 (.int .i64 (wrap64 (v1 + wrap64 (s * 2 ^ k))))).drew
      have hm3 : Mod (fun x => x = g) wr.drew (W2.setCell ⟨g, 1, none⟩ (.int .i64 (wrap64 (v1 + wrap64 (s * 2 ^ k))))).drew := (hm2.set (.inl rfl) _).drew
      generalize (W2.setCell ⟨g, 1, none⟩ (.int .i64 (wrap64 (v1 + wrap64 (s * 2 ^ k))))).drew = W3 at hb3 hm3 ⊢
      rw [wrap_step k s v1 (by omega) hs2 b1] at hb3
      clear c1 f1 hb2 hm2
      have c2 := hb3.at (i := 2) rfl
      have f2 := hb3.frozen 2
      go_region
      go_wp2_with fail
      go_roundw
      case rel =>
        refine ⟨k + 1, by omega, by go_num, ?_, ?_, ?_, ?_⟩
        · rw [← HD.out]; exact congrArg (Value.int .i64) (by simp)
        · rw [HL.out]
          have hb4 := hb3.set 2 (.int .i64 (wrap64 (v2 + wrap64 (z * 2 ^ k))))
          rw [wrap_step k z v2 (by omega) hz2 b2] at hb4 ⊢
          simp only [addc, HYR.out.1, HYR.out.2.1, HYR.out.2.2]
          exact hb4
        · have hne : w.heap.size ≠ g := by have := HG.out; omega
          exact ((hh.drew).mod hm3 hne).other _ (Ne.symm hne)
        · have hge : w.heap.size ≤ g := by have := HG.out; omega
          exact ((hM.drew.trans' hm3 (fun i hi h => by omega)).set (.inr hge) _).drew
      case measure => simp [intOf]; omega
    · obtain rfl : k = o := by omega
      go_wp2_with fail
      go_ret
      exact ret_ints (place_len _ _ _) (by have := HG.out; omega) hb hM
end Go.Proofs.YtidbohofjljkcaaDoor
