/- The law on a curve's coarser curve, walked whole: it answers true whatever the input. Conditions: none. -/
import Derived.Test.YtidbohofjljkcaaDoorHilSteps
import Derived.Test.YtidbohofjljkcaaDoorHilCube
import Derived.BigQuiet
import Derived.Deep.QuietTactic
namespace Go.Proofs.YtidbohofjljkcaaDoor
open Go.RowKit Lox Hil
set_option linter.unusedVariables false

theorem blk_kept' {w w' : World} {b : Nat} {T : TypeId} {xs : List Value} (h : Blk w b T xs) (hm : Mod (fun _ => False) w w') : Blk w' b T xs := h.mod hm (fun h => h)

theorem hwalk_int' (d o fr n : Nat) (D A B C : Int) (w : World) (hD : D = d) (hA : A = o) (hB : B = fr) (hC : C = n) (hd : (d = 2 ∧ o ≤ 31) ∨ (d = 3 ∧ o ≤ 20) ∨ (d = 4 ∧ o ≤ 15)) (h1 : 1 ≤ o) (hn1 : 1 ≤ n) (hn : n ≤ 100000) (hf : fr + n ≤ 4611686018427387904) :
    Calls Tryd.prog 8 #[.int .i64 D, .int .i64 A, .int .i64 B, .int .i64 C] w (WalkedAt d o fr n w) := by
  subst hD hA hB hC
  exact hwalk_at d o fr n w hd h1 hn1 hn hf

theorem cubes_no1 (d o fr n k : Int) (w : World) (h : ¬ Part d o fr n) :
    Calls Tryd.prog 3 #[.int .i64 d, .int .i64 o, .int .i64 fr, .int .i64 n, .int .i64 k] w fun e w' => e = .returned (.bool true) ∧ Mod (fun _ => False) w w' := by
  have H := Lib.hid h
  clear h
  go_enter Tryd.func3, Tryd.ntmps3
  go_wp2_with (go_at_call 7; refine (hiPart_any d o fr n _ false ⟨(fun h => by cases h), (fun h => absurd h H.out)⟩).mono ?_; rintro _ w1 ⟨rfl, hm1⟩)
  go_ret
  exact ⟨rfl, hm1⟩

theorem cubes_no2 (d o fr n k : Int) (w : World) (h : Part d o fr n) (hk : k < 1) :
    Calls Tryd.prog 3 #[.int .i64 d, .int .i64 o, .int .i64 fr, .int .i64 n, .int .i64 k] w fun e w' => e = .returned (.bool true) ∧ Mod (fun _ => False) w w' := by
  have H := Lib.hid h
  clear h
  go_enter Tryd.func3, Tryd.ntmps3
  go_wp2_with (go_at_call 7; refine (hiPart_any d o fr n _ true ⟨(fun _ => H.out), (fun _ => rfl)⟩).mono ?_; rintro _ w1 ⟨rfl, hm1⟩)
  go_ret
  exact ⟨rfl, hm1⟩

theorem cubes_no3 (d o fr n k : Int) (w : World) (h : Part d o fr n) (hk1 : 1 ≤ k) (hk : o ≤ k) :
    Calls Tryd.prog 3 #[.int .i64 d, .int .i64 o, .int .i64 fr, .int .i64 n, .int .i64 k] w fun e w' => e = .returned (.bool true) ∧ Mod (fun _ => False) w w' := by
  have H := Lib.hid h
  clear h
  go_enter Tryd.func3, Tryd.ntmps3
  go_wp2_with (go_at_call 7; refine (hiPart_any d o fr n _ true ⟨(fun _ => H.out), (fun _ => rfl)⟩).mono ?_; rintro _ w1 ⟨rfl, hm1⟩)
  go_ret
  exact ⟨rfl, hm1⟩

set_option maxRecDepth 100000 in
set_option maxHeartbeats 4000000 in
theorem cubes_yes (d o fr n k : Nat) (w : World) (hd : (d = 2 ∧ o ≤ 31) ∨ (d = 3 ∧ o ≤ 20) ∨ (d = 4 ∧ o ≤ 15)) (h1 : 1 ≤ o) (hn1 : 1 ≤ n) (hn : n ≤ 300) (hf : fr + n ≤ 2 ^ (d * o)) (hdo : d * o ≤ 62) (hp : Part d o fr n) (hk1 : 1 ≤ k) (hko : k < o) :
    Calls Tryd.prog 3 #[.int .i64 d, .int .i64 o, .int .i64 fr, .int .i64 n, .int .i64 k] w fun e w' => e = .returned (.bool true) ∧ Mod (fun _ => False) w w' := by
  have hle : 2 ^ (d * o) ≤ 2 ^ 62 := Nat.pow_le_pow_right (n := 2) (by omega) hdo
  have hf2 : Hid (fr + n ≤ 4611686018427387904) := by show _ ≤ _; omega
  have hfb : (fr : Int) + n ≤ 4611686018427387904 := by omega
  have H := Lib.hid hp
  have HF := Lib.hid hf
  have HD := Lib.hid hd
  have hdk : d * k ≤ 62 := Nat.le_trans (Nat.mul_le_mul_left d (by omega)) hdo
  obtain ⟨s, hs⟩ : ∃ s, s = d * k := ⟨_, rfl⟩
  have hsI : (d : Int) * k = s := by rw [hs]; simp
  have HS := Lib.hid hs
  have hs62 : s ≤ 62 := by omega
  have hkI : (1 : Int) ≤ k := by omega
  have hkoI : (k : Int) < o := by omega
  have hoI : (o : Int) ≤ 31 := by omega
  have hd4 : d ≤ 4 := by omega
  obtain ⟨F, hF'⟩ : ∃ F, F = fr / 2 ^ s := ⟨_, rfl⟩
  obtain ⟨G, hG'⟩ : ∃ G, G = (fr + n - 1) / 2 ^ s := ⟨_, rfl⟩
  have hF : (fr : Int) / 2 ^ s = F := by rw [hF']; simp
  have hG : ((fr : Int) + n - 1) / 2 ^ s = G := by
    rw [hG', show ((fr : Int) + n - 1) = ((fr + n - 1 : Nat) : Int) from by omega]; simp
  have hFG : F ≤ G := by rw [hF', hG']; exact Nat.div_le_div_right (by omega)
  have hG2 : G ≤ F + n := by
    rw [hF', hG']
    refine Nat.le_trans (Nat.div_le_div_right (c := 2 ^ s) (show fr + n - 1 ≤ fr + n * 2 ^ s from ?_)) ?_
    · have := Nat.le_mul_of_pos_right n (Nat.two_pow_pos s)
      omega
    · rw [Nat.add_mul_div_right _ _ (Nat.two_pow_pos s)]
      exact Nat.le_refl _
  have hG3 : G + 1 ≤ 4611686018427387904 := by
    have : (fr + n - 1) / 2 ^ s ≤ fr + n - 1 := Nat.div_le_self _ _
    omega
  have hFI : (F : Int) ≤ G := by omega
  have hGI : (G : Int) ≤ 4611686018427387904 := by omega
  have HFG := Lib.hid (And.intro hFG (And.intro hG2 hG3))
  have HF2 := Lib.hid (And.intro hF' hG')
  clear hp hf hle hs hdk hdo hd hFG hG2 hG3 hF' hG'
  go_enter Tryd.func3, Tryd.ntmps3
  go_wp2_with (go_at_call 7; refine (hiPart_any d o fr n _ true ⟨(fun _ => H.out), (fun _ => rfl)⟩).mono ?_; rintro _ w1 ⟨rfl, hm1⟩)
  refine (hwalk_int' d o fr n _ _ _ _ _ rfl rfl rfl rfl HD.out h1 hn1 (by omega) hf2.out).mono ?_
  rintro _ w2 ⟨b, cap, gs, rfl, hm2, hb, hbl, hall⟩
  have HALL := Lib.hid hall
  clear hall
  go_wp2_with fail
  refine (hwalk_int' d (o - k) F (G - F + 1) _ _ _ _ _ rfl (by omega) rfl (by omega) (by have := HD.out; omega) (by omega) (by omega) (by have := HFG.out; omega) (by have := HFG.out; omega)).mono ?_
  rintro _ w3 ⟨b', cap', gs', rfl, hm3, hb', hbl', hall'⟩
  have HALL' := Lib.hid hall'
  have hle := hm3.size
  clear hall'
  go_wp2_with fail
  have hgf : ((G - F + 1 : Nat) : Int) = (G : Int) - F + 1 := by omega
  go_loopw [83] (fun i wr => ∃ t : Nat, t ≤ n ∧ i = .int .i64 t ∧ ∃ m, wr = w3.drewN m) (fun i _ => n - (intOf i).toNat)
  case atStart => exact ⟨0, Nat.zero_le _, rfl, 0, rfl⟩
  case round =>
    obtain ⟨t, ht, rfl, m, hm⟩ := hrel
    have HM := Lib.hid hm
    by_cases hlt : t < n
    · obtain ⟨j, hj⟩ : ∃ j, F + j = (fr + t) / 2 ^ s := ⟨(fr + t) / 2 ^ s - F, by
        have : fr / 2 ^ s ≤ (fr + t) / 2 ^ s := Nat.div_le_div_right (by omega)
        have := HF2.out.1
        omega⟩
      have hjG : F + j ≤ G := by
        rw [hj, HF2.out.2]; exact Nat.div_le_div_right (by omega)
      obtain ⟨c0, e0⟩ := HALL.out t hlt
      obtain ⟨c1, e1⟩ := HALL'.out j (by omega)
      have hcube : cut k (place d o (fr + t)) = place d (o - k) (F + j) := by
        have := cubes d k (by have := HD.out; omega) (o - k) (fr + t)
        rw [show k + (o - k) = o from by omega, ← HS.out, ← hj] at this
        exact this
      rw [← hcube] at e1
      have hE : ((fr : Int) + t) / 2 ^ s = (F : Int) + j := by
        rw [show (F : Int) + j = ((F + j : Nat) : Int) from by simp, hj]; simp
      have hlen : (place d o (fr + t)).length = d := place_len _ _ _
      have hin : Ins o (place d o (fr + t)) := place_ins _ _ _
      obtain ⟨p, hp⟩ : ∃ p, p = place d o (fr + t) := ⟨_, rfl⟩
      rw [← hp] at e0 e1 hlen hin
      have w0 : Blk wr (gs.getD t 0) 3 (ints p) := by rw [hm]; exact (show Blk w3 (gs.getD t 0) 3 (ints p) from blk_kept' e0 hm3)
      have w0' : Blk wr (gs'.getD j 0) 3 (ints (cut k p)) := by rw [hm]; exact e1
      have d0 : wr.cell? ⟨b, t, none⟩ = some (.slice (some ⟨gs.getD t 0, 0, none⟩) d d) := by rw [hm]; exact (hm3.cell hbl (fun h => h)).trans c0
      have d1 : wr.cell? ⟨b', j, none⟩ = some (.slice (some ⟨gs'.getD j 0, 0, none⟩) d d) := by rw [hm]; exact c1
      have W0 : Hid (Blk w3 (gs.getD t 0) 3 (ints p)) := blk_kept' e0 hm3
      have W1 : Hid (Blk w3 (gs'.getD j 0) 3 (ints (cut k p))) := e1
      have D1 := Lib.hid c1
      clear c0 e0 e1 c1 hcube hm hp
      obtain ⟨g, hg⟩ : ∃ g, g = gs.getD t 0 := ⟨_, rfl⟩
      obtain ⟨h, hh⟩ : ∃ h, h = gs'.getD j 0 := ⟨_, rfl⟩
      rw [← hg] at w0 d0 W0
      rw [← hh] at w0' d1 W1 D1
      clear hg hh
      have HLEN := Lib.hid hlen
      have HJ := Lib.hid hj
      have hjb : (j : Int) < (G : Int) - F + 1 := by omega
      have hjf : (F : Int) + j - F = j := by omega
      clear hlen hj
      go_wp2_with fail
      clear w0 w0' d0 d1
      go_loopw [118] (fun i wr => ∃ a : Nat, a ≤ d ∧ i = .int .i64 a ∧ ∃ m, wr = w3.drewN m) (fun i _ => d - (intOf i).toNat)
      case atStart => exact ⟨0, Nat.zero_le _, rfl, m, HM.out⟩
      clear HM
      case round =>
        obtain ⟨a, ha, rfl, m', hm'⟩ := hrel
        have HM' := Lib.hid hm'
        by_cases hla : a < d
        · have x0 : wr.cell? ⟨g, a, none⟩ = some (.int .i64 (p.getD a 0)) := by rw [hm']; exact at_ints (show Blk w3 g 3 (ints p) from W0.out) (by rw [HLEN.out]; exact hla)
          have y0 : wr.cell? ⟨h, a, none⟩ = some (.int .i64 ((cut k p).getD a 0)) := by rw [hm']; exact at_ints (show Blk w3 h 3 (ints (cut k p)) from W1.out) (by rw [show (cut k p).length = p.length from by simp [cut], HLEN.out]; exact hla)
          have y1 : wr.cell? ⟨b', j, none⟩ = some (.slice (some ⟨h, 0, none⟩) d d) := by rw [hm']; exact D1.out
          have hxy : (cut k p).getD a 0 = p.getD a 0 / 2 ^ k := by
            have : a < p.length := by rw [HLEN.out]; exact hla
            simp [cut, this]
          have hx := hin.getD (i := a) (by rw [HLEN.out]; exact hla)
          rw [hxy] at y0
          obtain ⟨x, ex⟩ : ∃ x, x = p.getD a 0 := ⟨_, rfl⟩
          rw [← ex] at x0 y0 hx
          have hx0 := hx.1
          have a0 : (0 : Int) ≤ a := by omega
          have a1 : (a : Int) < d := by omega
          have j0 : (0 : Int) ≤ j := by omega
          have bz : (x / 2 ^ k != x / 2 ^ k) = false := by simp
          have hk62 : k ≤ 62 := by omega
          clear hxy ex hx hm'
          go_wp2_with fail
          go_quiet (fail)
          go_wp2_with fail
          go_roundw
          case rel => exact ⟨a + 1, by omega, by go_num, m' + nq, by rw [HM'.out]; simp [World.drewN, Nat.add_assoc]⟩
          case measure => simp [intOf]; omega
        · obtain rfl : a = d := by omega
          clear hm'
          go_wp2_with fail
          go_roundw
          case rel => exact ⟨t + 1, by omega, by go_num, m', HM'.out⟩
          case measure => simp [intOf]; omega
    · obtain rfl : t = n := by omega
      clear hm
      go_wp2
      go_ret
      refine ⟨rfl, ?_⟩
      rw [HM.out]
      have := (hm1.trans hm2).trans hm3
      exact ⟨this.os, this.tape, this.output, this.size, this.block⟩
theorem walk_fnHiCubes (d o fr n k : Int) (w0 : (Lit.int .i64 d).wf = true) (w1 : (Lit.int .i64 o).wf = true) (w2 : (Lit.int .i64 fr).wf = true) (w3 : (Lit.int .i64 n).wf = true) (w4 : (Lit.int .i64 k).wf = true) (w : World) :
    Calls Tryd.prog 3 #[.int .i64 d, .int .i64 o, .int .i64 fr, .int .i64 n, .int .i64 k] w fun e w' => e = .returned (.bool true) ∧ Below w.heap.size w w' := by
  by_cases h : Part d o fr n
  · by_cases hk : k < 1
    · exact (cubes_no2 d o fr n k w h hk).mono fun e w' ⟨he, hm⟩ => ⟨he, hm.toBelow⟩
    by_cases hk2 : o ≤ k
    · exact (cubes_no3 d o fr n k w h (by omega) hk2).mono fun e w' ⟨he, hm⟩ => ⟨he, hm.toBelow⟩
    obtain ⟨D, O, F, N, rfl, rfl, rfl, rfl, hd, h1, h2, h3, h4, h5⟩ := part_nat h
    obtain ⟨K, rfl⟩ : ∃ K : Nat, k = K := ⟨k.toNat, by omega⟩
    exact (cubes_yes D O F N K w hd h1 h2 h3 h4 h5 h (by omega) (by omega)).mono fun e w' ⟨he, hm⟩ => ⟨he, hm.toBelow⟩
  · exact (cubes_no1 d o fr n k w h).mono fun e w' ⟨he, hm⟩ => ⟨he, hm.toBelow⟩
end Go.Proofs.YtidbohofjljkcaaDoor
