/- The law on the curve from its end, walked whole: it answers true whatever the input. Conditions: none. -/
import Derived.Test.YtidbohofjljkcaaDoorHilSteps
import Derived.Test.YtidbohofjljkcaaDoorHilMir
import Derived.BigQuiet
import Derived.Deep.QuietTactic
namespace Go.Proofs.YtidbohofjljkcaaDoor
open Go.RowKit Lox Hil
set_option linter.unusedVariables false

theorem blk_kept {w w' : World} {b : Nat} {T : TypeId} {xs : List Value} (h : Blk w b T xs) (hm : Mod (fun _ => False) w w') : Blk w' b T xs := h.mod hm (fun h => h)

theorem hwalk_int (d o fr n : Nat) (D A : Int) (w : World) (hD : D = d) (hA : A = fr) (hd : (d = 2 ∧ o ≤ 31) ∨ (d = 3 ∧ o ≤ 20) ∨ (d = 4 ∧ o ≤ 15)) (h1 : 1 ≤ o) (hn1 : 1 ≤ n) (hn : n ≤ 100000) (hf : fr + n ≤ 4611686018427387904) :
    Calls Tryd.prog 8 #[.int .i64 D, .int .i64 o, .int .i64 A, .int .i64 n] w (WalkedAt d o fr n w) := by
  subst hD hA
  exact hwalk_at d o fr n w hd h1 hn1 hn hf

set_option maxHeartbeats 1000000 in
theorem mirror_no (o fr n : Int) (w : World) (h : ¬ Part 2 o fr n) :
    Calls Tryd.prog 4 #[.int .i64 o, .int .i64 fr, .int .i64 n] w fun e w' => e = .returned (.bool true) ∧ Mod (fun _ => False) w w' := by
  have H := Lib.hid h
  clear h
  go_enter Tryd.func4, Tryd.ntmps4
  go_wp2_with (go_at_call 7; refine (hiPart_any 2 o fr n _ false ⟨(fun h => by cases h), (fun h => absurd h H.out)⟩).mono ?_; rintro _ w1 ⟨rfl, hm1⟩)
  go_ret
  exact ⟨rfl, hm1⟩

set_option maxHeartbeats 2000000 in
theorem mirror_yes (o fr n : Nat) (w : World) (ho : o ≤ 31) (h1 : 1 ≤ o) (hn1 : 1 ≤ n) (hn : n ≤ 300) (hf : fr + n ≤ 2 ^ (2 * o)) (hp : Part 2 o fr n) :
    Calls Tryd.prog 4 #[.int .i64 o, .int .i64 fr, .int .i64 n] w fun e w' => e = .returned (.bool true) ∧ Mod (fun _ => False) w w' := by
  have hle : 2 ^ (2 * o) ≤ 2 ^ 62 := Nat.pow_le_pow_right (n := 2) (by omega) (by omega)
  obtain ⟨q, hq⟩ : ∃ q, q + (fr + n) = 2 ^ (2 * o) := ⟨2 ^ (2 * o) - (fr + n), by omega⟩
  have hq2 : Hid (q + n ≤ 4611686018427387904) := by show _ ≤ _; omega
  have hf2 : Hid (fr + n ≤ 4611686018427387904) := by show _ ≤ _; omega
  have H := Lib.hid hp
  have HF := Lib.hid hf
  have HQ := Lib.hid hq
  have hpow : ((2 : Int) ^ (2 * o)) = q + (fr + n) := by
    have : ((2 ^ (2 * o) : Nat) : Int) = ((q + (fr + n) : Nat) : Int) := by rw [hq]
    rw [Int.natCast_pow] at this
    simpa using this
  have hqb : (q : Int) + (fr + n) ≤ 4611686018427387904 := by omega
  clear hp hf hle hq
  go_enter Tryd.func4, Tryd.ntmps4
  go_wp2_with (go_at_call 7; refine (hiPart_any 2 o fr n _ true ⟨(fun _ => H.out), (fun _ => rfl)⟩).mono ?_; rintro _ w1 ⟨rfl, hm1⟩)
  refine (hwalk_int 2 o fr n _ _ _ rfl rfl (.inl ⟨rfl, ho⟩) h1 hn1 (by omega) hf2.out).mono ?_
  rintro _ w2 ⟨b, cap, gs, rfl, hm2, hb, hbl, hall⟩
  have HALL := Lib.hid hall
  clear hall
  go_wp2_with fail
  refine (hwalk_int 2 o q n _ _ _ rfl (by omega) (.inl ⟨rfl, ho⟩) h1 hn1 (by omega) hq2.out).mono ?_
  rintro _ w3 ⟨b', cap', gs', rfl, hm3, hb', hbl', hall'⟩
  have HALL' := Lib.hid hall'
  have hle := hm3.size
  clear hall'
  go_wp2_with fail
  go_loopw [59] (fun i wr => ∃ k : Nat, k ≤ n ∧ i = .int .i64 k ∧ ∃ m, wr = w3.drewN m) (fun i _ => n - (intOf i).toNat)
  case atStart => exact ⟨0, Nat.zero_le _, rfl, 0, rfl⟩
  case round =>
    obtain ⟨k, hk, rfl, m, hm⟩ := hrel
    have HM := Lib.hid hm
    by_cases hlt : k < n
    · obtain ⟨j, hj⟩ : ∃ j, j + k + 1 = n := ⟨n - 1 - k, by omega⟩
      obtain ⟨c0, e0⟩ := HALL.out k hlt
      obtain ⟨c1, e1⟩ := HALL'.out j (by omega)
      have hmir : place 2 o (q + j) = mir o (place 2 o (fr + k)) := by
        have h4 : 4 ^ o = 2 ^ (2 * o) := by rw [Nat.pow_mul]
        have hQ := HQ.out
        refine mirror o (fr + k) (q + j) ?_
        rw [h4, Nat.mod_eq_of_lt (by omega), Nat.mod_eq_of_lt (by omega)]
        omega
      obtain ⟨x, y, hxy⟩ := list2 (place_len 2 o (fr + k))
      have hin : Ins o [x, y] := by rw [← hxy]; exact place_ins _ _ _
      rw [hxy] at hmir e0
      rw [hmir] at e1
      have hx := hin x (by simp)
      have hy := hin y (by simp)
      have w0 : Blk wr (gs.getD k 0) 3 (ints [x, y]) := by rw [hm]; exact (show Blk w3 (gs.getD k 0) 3 (ints [x, y]) from blk_kept e0 hm3)
      have w0' : Blk wr (gs'.getD j 0) 3 (ints (mir o [x, y])) := by rw [hm]; exact e1
      have d0 : wr.cell? ⟨b, k, none⟩ = some (.slice (some ⟨gs.getD k 0, 0, none⟩) 2 2) := by rw [hm]; exact (hm3.cell hbl (fun h => h)).trans c0
      have d1 : wr.cell? ⟨b', j, none⟩ = some (.slice (some ⟨gs'.getD j 0, 0, none⟩) 2 2) := by rw [hm]; exact c1
      clear c0 c1 e0 e1 hmir hxy hin hm
      obtain ⟨g, hg⟩ : ∃ g, g = gs.getD k 0 := ⟨_, rfl⟩
      obtain ⟨h, hh⟩ : ∃ h, h = gs'.getD j 0 := ⟨_, rfl⟩
      rw [← hg] at w0 d0
      rw [← hh] at w0' d1
      clear hg hh
      have x0 := w0.at (i := 0) rfl
      have x1 := w0.at (i := 1) rfl
      have y0 := w0'.at (i := 0) rfl
      have y1 := w0'.at (i := 1) rfl
      simp only [List.getD_cons_zero, List.getD_cons_succ] at y0 y1
      clear w0 w0'
      have hjj : (n : Int) - 1 - k = j := by omega
      have hjn : j < n := by omega
      clear hj hqb HQ HF H
      have hp0 := two_pow_pos o
      have hp1 := two_pow_le o (by omega)
      have wr0 : IntKind.i64.wrap (2 ^ o) = 2 ^ o := by rw [IntKind.wrap_i64]; omega
      have wr1 : IntKind.i64.wrap (2 ^ o - 1) = 2 ^ o - 1 := by rw [IntKind.wrap_i64]; omega
      have wr2 : IntKind.i64.wrap (2 ^ o - 1 - (2 ^ o - 1 - y)) = y := by rw [IntKind.wrap_i64]; omega
      obtain ⟨z, hz⟩ : ∃ z, z = 2 ^ o - 1 - y := ⟨_, rfl⟩
      rw [← hz] at y1 wr2
      have bx : (x != x) = false := by simp
      have byy : (y != y) = false := by simp
      clear hz hp0 hp1 hx hy
      go_wp2_with fail
      go_quiet (fail)
      go_wp2_with fail
      go_roundw
      case rel => exact ⟨k + 1, by omega, by go_num, m + nq, by rw [HM.out]; simp [World.drewN, Nat.add_assoc]⟩
      case measure => simp [intOf]; omega
    · obtain rfl : k = n := by omega
      clear hm
      go_wp2
      go_ret
      refine ⟨rfl, ?_⟩
      rw [HM.out]
      have := (hm1.trans hm2).trans hm3
      exact ⟨this.os, this.tape, this.output, this.size, this.block⟩
theorem walk_fnHiMirror (o fr n : Int) (w0 : (Lit.int .i64 o).wf = true) (w1 : (Lit.int .i64 fr).wf = true) (w2 : (Lit.int .i64 n).wf = true) (w : World) :
    Calls Tryd.prog 4 #[.int .i64 o, .int .i64 fr, .int .i64 n] w fun e w' => e = .returned (.bool true) ∧ Below w.heap.size w w' := by
  by_cases h : Part 2 o fr n
  · obtain ⟨D, O, F, N, e, rfl, rfl, rfl, hd, h1, h2, h3, h4, h5⟩ := part_nat h
    obtain rfl : D = 2 := by omega
    exact (mirror_yes O F N w (by omega) h1 h2 h3 h4 h).mono fun e w' ⟨he, hm⟩ => ⟨he, hm.toBelow⟩
  · exact (mirror_no o fr n w h).mono fun e w' ⟨he, hm⟩ => ⟨he, hm.toBelow⟩
end Go.Proofs.YtidbohofjljkcaaDoor
