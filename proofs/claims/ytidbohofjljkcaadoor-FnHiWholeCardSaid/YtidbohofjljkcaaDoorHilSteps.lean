/- The walk of the law on a curve's steps. Conditions: none. -/
import Derived.Test.YtidbohofjljkcaaDoorHilLoop
namespace Go.Proofs.YtidbohofjljkcaaDoor
open Go.RowKit Lox Hil
set_option linter.unusedVariables false

theorem hwalk_any (d o fr n : Nat) (w : World) (hd : (d = 2 ∧ o ≤ 31) ∨ (d = 3 ∧ o ≤ 20) ∨ (d = 4 ∧ o ≤ 15)) (h1 : 1 ≤ o) (hn1 : 1 ≤ n) (hn : n ≤ 100000) (hf : fr + n ≤ 4611686018427387904) :
    Calls Tryd.prog 8 #[.int .i64 d, .int .i64 o, .int .i64 fr, .int .i64 n] w (Walked d (places d o fr n) w) := by
  rcases hd with ⟨rfl, h⟩ | ⟨rfl, h⟩ | ⟨rfl, h⟩
  · exact hwalk2 o fr n w h1 h hn1 hn hf
  · exact hwalk3 o fr n w h1 h hn1 hn hf
  · exact hwalk4 o fr n w h1 h hn1 hn hf

/-- What the walk along a curve hands back, written out. -/
def WalkedAt (d o fr n : Nat) (w : World) (e : Ending) (w' : World) : Prop :=
  ∃ (b cap : Nat) (gs : List Nat), e = .returned (.tuple #[.slice (some ⟨b, 0, none⟩) n cap, .bool true]) ∧ Mod (fun _ => False) w w' ∧ w.heap.size ≤ b ∧ b < w'.heap.size ∧
    ∀ i, i < n → w'.cell? ⟨b, i, none⟩ = some (.slice (some ⟨gs.getD i 0, 0, none⟩) d d) ∧ Blk w' (gs.getD i 0) 3 (ints (place d o (fr + i)))

theorem hwalk_at (d o fr n : Nat) (w : World) (hd : (d = 2 ∧ o ≤ 31) ∨ (d = 3 ∧ o ≤ 20) ∨ (d = 4 ∧ o ≤ 15)) (h1 : 1 ≤ o) (hn1 : 1 ≤ n) (hn : n ≤ 100000) (hf : fr + n ≤ 4611686018427387904) :
    Calls Tryd.prog 8 #[.int .i64 d, .int .i64 o, .int .i64 fr, .int .i64 n] w (WalkedAt d o fr n w) := by
  refine (hwalk_any d o fr n w hd h1 hn1 hn hf).mono ?_
  rintro e w' ⟨v, rfl, hr, hm⟩
  obtain ⟨b, cap, gs, rfl, hb, hlt, hlen, hall⟩ := hr.laid (by rw [places_len]; omega)
  rw [places_len] at hall ⊢
  refine ⟨b, cap, gs, rfl, hm, hb, hlt, fun i hi => ⟨(hall i hi).1, ?_⟩⟩
  have := (hall i hi).2
  simpa [places, hi] using this

/-- A part of a curve, as numbers from 0 on. -/
theorem part_nat {d o fr n : Int} (h : Part d o fr n) : ∃ D O F N : Nat, d = D ∧ o = O ∧ fr = F ∧ n = N ∧ ((D = 2 ∧ O ≤ 31) ∨ (D = 3 ∧ O ≤ 20) ∨ (D = 4 ∧ O ≤ 15)) ∧ 1 ≤ O ∧ 1 ≤ N ∧ N ≤ 300 ∧ F + N ≤ 2 ^ (D * O) ∧ D * O ≤ 62 := by
  obtain ⟨h1, h2, h3, h4, h5, h6⟩ := h
  have key : ∀ D : Nat, d = D → ∃ D O F N : Nat, d = D ∧ o = O ∧ fr = F ∧ n = N ∧ 1 ≤ O ∧ 1 ≤ N ∧ N ≤ 300 ∧ F + N ≤ 2 ^ (D * O) := by
    rintro D rfl
    refine ⟨D, o.toNat, fr.toNat, n.toNat, rfl, by omega, by omega, by omega, by omega, by omega, by omega, ?_⟩
    have e : ((D : Int) * o).toNat = D * o.toNat := by
      rw [show ((D : Int) * o) = ((D * o.toNat : Nat) : Int) from by rw [Int.natCast_mul]; congr 1; omega, Int.toNat_natCast]
    rw [e] at h6
    have e2 : ((2 : Int) ^ (D * o.toNat)) = ((2 ^ (D * o.toNat) : Nat) : Int) := by rw [Int.natCast_pow]; rfl
    rw [e2] at h6
    omega
  rcases most_cases d o h1 h2 with ⟨rfl, h⟩ | ⟨rfl, h⟩ | ⟨rfl, h⟩
  · obtain ⟨D, O, F, N, e1, e2, e3, e4, r1, r2, r3, r4⟩ := key 2 rfl
    obtain rfl : D = 2 := by omega
    exact ⟨2, O, F, N, rfl, e2, e3, e4, .inl ⟨rfl, by omega⟩, r1, r2, r3, r4, by omega⟩
  · obtain ⟨D, O, F, N, e1, e2, e3, e4, r1, r2, r3, r4⟩ := key 3 rfl
    obtain rfl : D = 3 := by omega
    exact ⟨3, O, F, N, rfl, e2, e3, e4, .inr (.inl ⟨rfl, by omega⟩), r1, r2, r3, r4, by omega⟩
  · obtain ⟨D, O, F, N, e1, e2, e3, e4, r1, r2, r3, r4⟩ := key 4 rfl
    obtain rfl : D = 4 := by omega
    exact ⟨4, O, F, N, rfl, e2, e3, e4, .inr (.inr ⟨rfl, by omega⟩), r1, r2, r3, r4, by omega⟩

theorem hiWay_one (g h n d : Nat) (p q : List Int) (w : World) (hp : p.length = d) (hq : q.length = d) (hd : d ≤ 4) (hn : n ≤ 59) (ip : Ins n p) (iq : Ins n q) (hb : Blk w g 3 (ints p)) (hc : Blk w h 3 (ints q)) (hw : way p q = 1) :
    Calls Tryd.prog 10 #[.slice (some ⟨g, 0, none⟩) d d, .slice (some ⟨h, 0, none⟩) d d] w fun e w' => e = .returned (.int .i64 1) ∧ ∃ m, w' = w.drewN m := by
  have := hiWay_any g h n d p q w hp hq hd hn ip iq hb hc
  rw [hw] at this
  exact this

set_option maxHeartbeats 1000000 in
theorem steps_no (d o fr n : Int) (w : World) (h : ¬ Part d o fr n) :
    Calls Tryd.prog 5 #[.int .i64 d, .int .i64 o, .int .i64 fr, .int .i64 n] w fun e w' => e = .returned (.bool true) ∧ Mod (fun _ => False) w w' := by
  have H := Lib.hid h
  clear h
  go_enter Tryd.func5, Tryd.ntmps5
  go_wp2_with (go_at_call 7; refine (hiPart_any d o fr n _ false ⟨(fun h => by cases h), (fun h => absurd h H.out)⟩).mono ?_; rintro _ w1 ⟨rfl, hm1⟩)
  go_ret
  exact ⟨rfl, hm1⟩

set_option maxHeartbeats 2000000 in
theorem steps_yes (d o fr n : Nat) (w : World) (hd : (d = 2 ∧ o ≤ 31) ∨ (d = 3 ∧ o ≤ 20) ∨ (d = 4 ∧ o ≤ 15)) (h1 : 1 ≤ o) (hn1 : 1 ≤ n) (hn : n ≤ 300) (hf : fr + n ≤ 2 ^ (d * o)) (hdo : d * o ≤ 62) (hp : Part d o fr n) :
    Calls Tryd.prog 5 #[.int .i64 d, .int .i64 o, .int .i64 fr, .int .i64 n] w fun e w' => e = .returned (.bool true) ∧ Mod (fun _ => False) w w' := by
  have H := Lib.hid hp
  have HF := Lib.hid hf
  have HD := Lib.hid hd
  have hf2 : Hid (fr + n ≤ 4611686018427387904) := Nat.le_trans hf (Nat.pow_le_pow_right (n := 2) (by omega) hdo)
  clear hp hf hd hdo
  go_enter Tryd.func5, Tryd.ntmps5
  go_wp2_with (first | (go_at_call 7; refine (hiPart_any d o fr n _ true ⟨fun _ => H.out, fun _ => rfl⟩).mono ?_; rintro _ w1 ⟨rfl, hm1⟩) | (go_at_call 8; refine (hwalk_at d o fr n _ HD.out h1 hn1 (by omega) hf2.out).mono ?_; rintro _ w2 ⟨b, cap, gs, rfl, hm2, hb, hbl, hall⟩))
  have HALL := Lib.hid hall
  clear hall
  go_loopw [37] (fun i wr => ∃ k : Nat, k ≤ n ∧ i = .int .i64 k ∧ ∃ m, wr = w2.drewN m) (fun i _ => n - (intOf i).toNat)
  case atStart => exact ⟨0, Nat.zero_le _, rfl, 0, rfl⟩
  case round =>
    obtain ⟨k, hk, rfl, m, hm⟩ := hrel
    by_cases hlt : k < n
    · obtain ⟨c0, b0⟩ := HALL.out k hlt
      have c0' : wr.cell? ⟨b, k, none⟩ = some (.slice (some ⟨gs.getD k 0, 0, none⟩) d d) := by rw [hm]; exact c0
      have b0' : Blk wr (gs.getD k 0) 3 (ints (place d o (fr + k))) := by rw [hm]; exact b0
      clear c0 b0
      obtain ⟨g, hg⟩ : ∃ g, g = gs.getD k 0 := ⟨_, rfl⟩
      rw [← hg] at c0' b0'
      clear hg
      have hd4 : d ≤ 4 := by have := HD.out; omega
      have ho4 : o ≤ 59 := by have := HD.out; omega
      have HI : Hid (Calls Tryd.prog 9 #[.int .i64 d, .int .i64 o, .slice (some ⟨g, 0, none⟩) d d] wr fun e w' => e = .returned (.bool true) ∧ wr = w') := hiInside_yes g o d (place d o (fr + k)) wr (place_len _ _ _) hd4 (by omega) (place_ins _ _ _) b0'
      cases k with
      | zero =>
        have HM := Lib.hid hm
        clear hm b0'
        go_wp2_with (go_at_call 9; refine HI.out.mono ?_; rintro _ _ ⟨rfl, rfl⟩)
        go_roundw
        case rel => exact ⟨1, by omega, by go_num, m, HM.out⟩
        case measure => simp [intOf]; omega
      | succ j =>
        obtain ⟨c1, b1⟩ := HALL.out j (by omega)
        have c1' : wr.cell? ⟨b, j, none⟩ = some (.slice (some ⟨gs.getD j 0, 0, none⟩) d d) := by rw [hm]; exact c1
        have b1' : Blk wr (gs.getD j 0) 3 (ints (place d o (fr + j))) := by rw [hm]; exact b1
        clear c1 b1
        obtain ⟨h, hh⟩ : ∃ h, h = gs.getD j 0 := ⟨_, rfl⟩
        rw [← hh] at c1' b1'
        clear hh
        have hstep : way (place d o (fr + (j + 1))) (place d o (fr + j)) = 1 := by
          refine steps d (by have := HD.out; omega) o (fr + j) ?_
          rw [Nat.mod_eq_of_lt (by have := HF.out; omega)]
          omega
        have HW : Hid (Calls Tryd.prog 10 #[.slice (some ⟨g, 0, none⟩) d d, .slice (some ⟨h, 0, none⟩) d d] wr fun e w' => e = .returned (.int .i64 1) ∧ ∃ m, w' = wr.drewN m) := hiWay_one g h o d (place d o (fr + (j + 1))) (place d o (fr + j)) wr (place_len _ _ _) (place_len _ _ _) hd4 ho4 (place_ins _ _ _) (place_ins _ _ _) b0' b1' hstep
        have HM := Lib.hid hm
        clear hm b0' b1' hstep
        go_wp2_with (first | (go_at_call 9; refine HI.out.mono ?_; rintro _ _ ⟨rfl, rfl⟩) | (go_at_call 10; refine HW.out.mono ?_; rintro _ w3 ⟨rfl, m3, hm3⟩))
        go_roundw
        case rel => exact ⟨j + 1 + 1, by omega, by go_num, m + m3, by rw [HM.out]; simp [World.drewN, Nat.add_assoc]⟩
        case measure => simp [intOf]; omega
    · obtain rfl : k = n := by omega
      have HM := Lib.hid hm
      clear hm
      go_wp2
      go_ret
      refine ⟨rfl, ?_⟩
      rw [HM.out]
      exact ⟨(hm1.trans hm2).os, (hm1.trans hm2).tape, (hm1.trans hm2).output, (hm1.trans hm2).size, (hm1.trans hm2).block⟩
end Go.Proofs.YtidbohofjljkcaaDoor
