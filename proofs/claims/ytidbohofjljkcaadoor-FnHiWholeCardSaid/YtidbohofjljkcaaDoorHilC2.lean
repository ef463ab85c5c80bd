/- The walk of the place of a position on the plane's Hilbert curve, with no place handed in. Conditions: orders up to 31, a position from 0 on. -/
import Derived.Test.YtidbohofjljkcaaDoorHilRot2
import Derived.Test.YtidbohofjljkcaaDoorHilPlain
import Derived.Deep.RegionWith
namespace Go.Proofs.YtidbohofjljkcaaDoor
open Go.RowKit Lox Hil

def NewInts (xs : List Int) (w : World) (e : Ending) (w' : World) : Prop :=
  ∃ g, e = .returned (.slice (some ⟨g, 0, none⟩) xs.length xs.length) ∧ w.heap.size ≤ g ∧ Blk w' g 3 (ints xs) ∧ Mod (fun _ => False) w w'

theorem ret_ints {d : Nat} {xs : List Int} {w : World} {g : Nat} {w' : World} (h : xs.length = d) (hg : w.heap.size ≤ g) (hb : Blk w' g 3 (ints xs)) (hm : Mod (fun _ => False) w w') :
    NewInts xs w (.returned (.slice (some ⟨g, 0, none⟩) d d)) w' := ⟨g, by rw [h], hg, hb, hm⟩

set_option maxHeartbeats 1000000 in
theorem coord2 (o P : Nat) (w : World) (ho : o ≤ 31) (hP : P < 9223372036854775808) :
    Calls Tryd.prog 14 #[.agg #[.int .i64 o], .slice none 0 0, .int .i64 P] w (NewInts (place 2 o P) w) := by
  have HP := Lib.hid hP
  clear hP
  have qT : ∀ (w : World) (a : Option Addr) (n c n' c' : Nat), (binOp .eql 26 (.slice a n c) (.slice none n' c')).run Tryd.prog w = .ok (.bool a.isNone) w := fun w a n c n' c' => Lib.run_eql_slice_nil w _ _ a n c n' c' Tryd.underlying26
  have hmk : ∀ w : World, (Instr.makeSlice 26 (.int .i64 2) (.int .i64 2)).run Tryd.prog w = .ok (.slice (some ⟨w.heap.size, 0, none⟩) 2 2) (w.alloc (.cells #[.int .i64 0, .int .i64 0] 3)) := fun _ => by kernel_rfl
  go_enter Tryd.func14, Tryd.ntmps14
  go_wp2
  obtain ⟨g, hg⟩ : ∃ g, g = w.heap.size + 1 := ⟨_, rfl⟩
  rw [← hg]
  have HG := Lib.hid hg
  go_loopw [2, 7] (fun p n wr => ∃ k : Nat, k ≤ o ∧ n = .int .i64 k ∧ p = .int .i64 ((P / (2 ^ 2) ^ k : Nat) : Int) ∧ Blk wr g 3 (ints (place 2 k P)) ∧ Blk wr w.heap.size 36 [.int .i64 o] ∧ Mod (fun _ => False) w wr) (fun _ n _ => o - (intOf n).toNat)
  case atStart =>
    refine ⟨0, Nat.zero_le _, rfl, by simp, ?_, ?_, ?_⟩
    · have := Blk.new' (w.alloc (.cells #[.int .i64 o] 36)) #[.int .i64 0, .int .i64 0] 3
      simp only [World.size_alloc] at this
      rw [hg]; exact this
    · exact (Blk.new' w #[.int .i64 o] 36).alloc _
    · exact ((Mod.refl _ _).alloc _).alloc _
  clear hg
  case round =>
    obtain ⟨k, hk, rfl, rfl, hb, hh, hM⟩ := hrel
    have h0 := hh.at (i := 0) rfl
    by_cases hlt : k < o
    · have hA := digit_and 2 P k (by decide) HP.out
      have he := digit_lt 2 k P
      have HD := Lib.hid (div_step P 2 k)
      have HL : Hid (place 2 (k + 1) P = addc k (digit 2 k P) 0 (rot2 k (digit 2 k P) (place 2 k P))) := rfl
      obtain ⟨e, heq⟩ : ∃ e : Nat, e = digit 2 k P := ⟨_, rfl⟩
      obtain ⟨Q, hQ⟩ : ∃ Q : Nat, Q = P / (2 ^ 2) ^ k := ⟨_, rfl⟩
      rw [← heq] at hA HL he
      rw [← hQ] at hA HD
      rw [← hQ]
      clear heq hQ
      replace hA : bits .and .i64 (Q : Int) 3 = (e : Int) := hA
      replace he : e < 4 := he
      have hY : (e : Int) / 2 = ((e / 2 : Nat) : Int) := by omega
      have hR := gray_bit e (e / 2) (by omega) (by omega)
      have HYR := Lib.hid (And.intro (gb2_1 e he) (gb2_0 e he))
      obtain ⟨y, hy⟩ : ∃ y : Nat, y = e / 2 := ⟨_, rfl⟩
      rw [← hy] at hY hR HYR
      obtain ⟨r, hr⟩ : ∃ r : Nat, r = (e ^^^ y) % 2 := ⟨_, rfl⟩
      rw [← hr] at hR HYR
      have hy2 : y < 2 := by omega
      have hr2 : r < 2 := by omega
      clear hy hr
      go_wp2_with fail
      go_region_with (go_at_call 19; refine (rot2_any g k e _ _ _ (place 2 k P) _ rfl rfl he (by omega) (place_len _ _ _) (place_ins _ _ _) hb.drew).mono ?_; rintro _ w1 ⟨rfl, hb1, hm1⟩)
      have hin1 : Ins k (rot2 k e (place 2 k P)) := rot2_ins (place_len _ _ _) (place_ins _ _ _)
      have hl1 : (rot2 k e (place 2 k P)).length = 2 := by rw [rot2_len, place_len]
      obtain ⟨v0, v1, hv⟩ : ∃ v0 v1, rot2 k e (place 2 k P) = [v0, v1] := by
        match rot2 k e (place 2 k P), hl1 with
        | [a, b], _ => exact ⟨a, b, rfl⟩
      rw [hv] at hb1 hin1 HL
      clear hv hl1
      have b0 := hin1 v0 (by simp)
      have b1 := hin1 v1 (by simp)
      have c0 := hb1.at (i := 0) rfl
      have c1 := hb1.at (i := 1) rfl
      have f0 := hb1.frozen 0
      have f1 := hb1.frozen 1
      go_wp2_with fail
      go_region
      go_wp2_with fail
      have hb2 := (hb1.set 0 (.int .i64 (wrap64 (v0 + wrap64 (r * 2 ^ k))))).drew
      have hm2 : Mod (fun x => x = g) wr.drew (w1.setCell ⟨g, 0, none⟩ (.int .i64 (wrap64 (v0 + wrap64 (r * 2 ^ k))))).drew := (hm1.set (.inl rfl) _).drew
      generalize (w1.setCell ⟨g, 0, none⟩ (.int .i64 (wrap64 (v0 + wrap64 (r * 2 ^ k))))).drew = W2 at hb2 hm2 ⊢
      rw [wrap_step k r v0 (by omega) hr2 b0] at hb2
      clear c0 c1 f0 f1 hb1 hm1
      have c1 := hb2.at (i := 1) rfl
      have f1 := hb2.frozen 1
      go_region
      go_wp2_with fail
      go_roundw
      case rel =>
        refine ⟨k + 1, by omega, by go_num, ?_, ?_, ?_, ?_⟩
        · rw [← HD.out]; exact congrArg (Value.int .i64) (by simp)
        · rw [HL.out]
          have hb3 := hb2.set 1 (.int .i64 (wrap64 (v1 + wrap64 (y * 2 ^ k))))
          rw [wrap_step k y v1 (by omega) hy2 b1] at hb3 ⊢
          simp only [addc, HYR.out.1, HYR.out.2]
          exact hb3
        · have hne : w.heap.size ≠ g := by have := HG.out; omega
          exact ((hh.drew).mod hm2 hne).other _ (Ne.symm hne)
        · have hge : w.heap.size ≤ g := by have := HG.out; omega
          exact ((hM.drew.trans' hm2 (fun i hi h => by omega)).set (.inr hge) _).drew
      case measure => simp [intOf]; omega
    · obtain rfl : k = o := by omega
      go_wp2_with fail
      go_ret
      exact ret_ints (place_len _ _ _) (by have := HG.out; omega) hb hM
end Go.Proofs.YtidbohofjljkcaaDoor
