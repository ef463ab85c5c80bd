/- The law on a whole curve, walked whole: it answers true whatever the input. Conditions: none. -/
import Derived.Test.YtidbohofjljkcaaDoorHilSteps
import Derived.Test.YtidbohofjljkcaaDoorHilCode
import Derived.BigQuiet
import Derived.Deep.QuietTactic
import Derived.Deep.RegionWith
import Derived.Deep.DrawnRows
namespace Go.Proofs.YtidbohofjljkcaaDoor
open Go.RowKit Lox Hil
set_option linter.unusedVariables false
attribute [local go_sem ↓] Go.wp_at_zero Go.wp_at_succ

theorem info_bool : (Tryd.prog.info? 4).map (fun i => (i.zero, i.size, i.bytes)) = some (some (.bool false), 1, 1) := by kernel_rfl

theorem blk_of_full {w : World} {B e n g : Nat} {xs : List Value} (h : w.ownsRow B e 1 (.slice (some ⟨g, 0, none⟩) n n) n xs) : Blk w g e xs := by
  obtain ⟨h1, h2⟩ := h
  rcases h2 with ⟨h2, _⟩ | ⟨g', cap, cur, h2, hb, hg, hn, hm, hs, ht⟩
  · cases h2
  · simp only [Value.slice.injEq, Option.some.injEq, Addr.mk.injEq] at h2
    obtain ⟨⟨rfl, _⟩, _, rfl⟩ := h2
    unfold Blk
    rw [hg]
    have : cur.toList = xs := by rw [← ht, List.take_of_length_le (by simp; omega)]
    rw [← this]

theorem made_falses (n : Nat) : (madeCells (Value.bool false).cells (n * 1)).toList = (List.replicate n false).map Value.bool := by
  apply List.ext_getElem?
  intro i
  simp [madeCells, Value.cells, List.getElem?_replicate]
  by_cases hi : i < n <;> simp [hi]
  simp [Nat.mod_one]

theorem hwalk_int'' (d o fr n : Nat) (D B C : Int) (w : World) (hD : D = d) (hB : B = fr) (hC : C = n) (hd : (d = 2 ∧ o ≤ 31) ∨ (d = 3 ∧ o ≤ 20) ∨ (d = 4 ∧ o ≤ 15)) (h1 : 1 ≤ o) (hn1 : 1 ≤ n) (hn : n ≤ 100000) (hf : fr + n ≤ 4611686018427387904) :
    Calls Tryd.prog 8 #[.int .i64 D, .int .i64 o, .int .i64 B, .int .i64 C] w (WalkedAt d o fr n w) := by
  subst hD hB hC
  exact hwalk_at d o fr n w hd h1 hn1 hn hf

theorem hiWay_zero (g h d : Nat) (w : World) (hd : d ≤ 4) (hb : Blk w g 3 (ints (List.replicate d 0))) (hc : Blk w h 3 (ints (List.replicate d 0))) :
    Calls Tryd.prog 10 #[.slice (some ⟨g, 0, none⟩) d d, .slice (some ⟨h, 0, none⟩) d d] w fun e w' => e = .returned (.int .i64 0) ∧ Mod (fun _ => False) w w' := by
  have hin : Ins 1 (List.replicate d 0) := fun x hx => by
    rw [List.mem_replicate] at hx
    rw [hx.2]; decide
  have := hiWay_any g h 1 d _ _ w (by simp) (by simp) hd (by decide) hin hin hb hc
  rw [way_zeros] at this
  refine this.mono ?_
  rintro e w' ⟨he, m, rfl⟩
  exact ⟨he, ⟨rfl, rfl, rfl, Nat.le_refl _, fun _ _ _ => rfl⟩⟩

theorem whole_no1 (d o : Int) (w : World) (h : ¬ (1 ≤ o ∧ o ≤ most d)) :
    Calls Tryd.prog 6 #[.int .i64 d, .int .i64 o] w fun e w' => e = .returned (.bool true) ∧ Mod (fun _ => False) w w' := by
  have H : Hid (false = decide (1 ≤ o ∧ o ≤ most d)) := by simp [Hid, h]
  clear h
  go_enter Tryd.func6, Tryd.ntmps6
  go_wp2_with (go_at_call 11; refine (hiOrder_gen d o _ _ H.out).mono ?_; rintro _ w1 ⟨rfl, hm1⟩)
  go_ret
  exact ⟨rfl, hm1⟩

theorem whole_no2 (d o : Int) (w : World) (h : 1 ≤ o ∧ o ≤ most d) (hb : 12 < d * o) :
    Calls Tryd.prog 6 #[.int .i64 d, .int .i64 o] w fun e w' => e = .returned (.bool true) ∧ Mod (fun _ => False) w w' := by
  obtain ⟨b, h62, hbd, hbw⟩ := bits_of d o h.1 h.2
  have H : Hid (true = decide (1 ≤ o ∧ o ≤ most d)) := by simp [Hid, h]
  rw [hbd] at hb
  clear h hbd
  go_enter Tryd.func6, Tryd.ntmps6
  go_wp2_with (go_at_call 11; refine (hiOrder_gen d o _ _ H.out).mono ?_; rintro _ w1 ⟨rfl, hm1⟩)
  go_ret
  exact ⟨rfl, hm1⟩

set_option maxRecDepth 100000 in
set_option maxHeartbeats 4000000 in
theorem whole2 (o : Nat) (w : World) (h1 : 1 ≤ o) (h2 : 2 * o ≤ 12) :
    Calls Tryd.prog 6 #[.int .i64 2, .int .i64 o] w fun e w' => e = .returned (.bool true) ∧ Mod (fun _ => False) w w' := by
  have H : Hid (true = decide (1 ≤ (o : Int) ∧ (o : Int) ≤ most 2)) := by
    have : most 2 = 31 := by decide
    rw [this]
    simp [Hid]
    omega
  obtain ⟨b, hb⟩ : ∃ b, b = 2 * o := ⟨_, rfl⟩
  have hbw : wrap64 (2 * (o : Int)) = b := by unfold wrap64; omega
  have hb12 : b ≤ 12 := by omega
  have hbI : (b : Int) ≤ 12 := by omega
  obtain ⟨N, hN⟩ : ∃ N, N = 2 ^ b := ⟨_, rfl⟩
  have hNI : (2 : Int) ^ b = N := by rw [hN, Int.natCast_pow]; rfl
  have hN12 : N ≤ 4096 := by rw [hN]; exact Nat.pow_le_pow_right (n := 2) (j := 12) (by omega) hb12
  have hN1 : 1 ≤ N := by rw [hN]; exact Nat.two_pow_pos b
  have hwN : wrap64 (N : Int) = N := by unfold wrap64; omega
  have HN : Hid (N = 2 ^ (2 * o)) := by rw [← hb]; exact hN
  clear hN hb
  obtain ⟨i0, hi0, hz0, hz1, hz2⟩ := info_parts info_bool
  have HI := Lib.hid (And.intro hi0 (And.intro hz0 (And.intro hz1 hz2)))
  clear hi0 hz0 hz1 hz2
  have hmk : ∀ w : World, (Instr.makeSlice 26 (.int .i64 2) (.int .i64 2)).run Tryd.prog w = .ok (.slice (some ⟨w.heap.size, 0, none⟩) 2 2) (w.alloc (.cells #[.int .i64 0, .int .i64 0] 3)) := fun _ => by kernel_rfl
  go_enter Tryd.func6, Tryd.ntmps6
  go_wp2_with (go_at_call 11; refine (hiOrder_gen 2 o _ _ H.out).mono ?_; rintro _ w1 ⟨rfl, hm1⟩)
  refine (hwalk_int'' 2 o 0 N _ _ _ _ rfl rfl (by first | rfl | omega) (by omega) h1 hN1 (by omega) (by omega)).mono ?_
  rintro _ w2 ⟨v, cap, gs, rfl, hm2, hvb, hvl, hall⟩
  have HALL := Lib.hid hall
  clear hall
  go_wp2_with (at_make; refine wpList_make_full _ rfl _ _ 33 rfl 0 4 i0 (.bool false) 1 Tryd.underlying33 HI.out.1 HI.out.2.1 HI.out.2.2.1 _ _ _ _ N rfl rfl rfl rfl (by rw [HI.out.2.2.2]; omega) (by unfold maxLen; omega) (Nat.zero_le _) ?_; intro w3 hown3 hgrow3)
  have hseen : Blk w3 w2.heap.size 4 ((List.replicate N false).map Value.bool) := by
    rw [← made_falses]; exact blk_of_full hown3
  have hm3 : Mod (fun _ => False) w2 w3 := ⟨hgrow3.os, hgrow3.tape, hgrow3.output, hgrow3.size, fun k hk _ => hgrow3.block k hk (by simp)⟩
  clear hown3 hgrow3
  obtain ⟨g, hg⟩ : ∃ g, g = w2.heap.size := ⟨_, rfl⟩
  rw [← hg]
  rw [← hg] at hseen
  have HG := Lib.hid hg
  have hvg : v < g := by omega
  clear hg
  go_loopw [52] (fun i wr => ∃ t : Nat, t ≤ N ∧ i = .int .i64 t ∧ ∃ bs : List Bool, bs.length = N ∧ Blk wr g 4 (bs.map Value.bool) ∧ (∀ c : Nat, bs[c]? = some true → ∃ j, j < t ∧ code o 0 (place 2 o j) = c) ∧ Mod (fun k => k = g) w3 wr) (fun i _ => N - (intOf i).toNat)
  case atStart =>
    refine ⟨0, Nat.zero_le _, rfl, List.replicate N false, by simp, hseen, fun c hc => ?_, Mod.refl _ _⟩
    rw [List.getElem?_replicate] at hc
    split at hc <;> cases hc
  clear hseen
  case round =>
    obtain ⟨t, ht, rfl, bs, hbl, hbk, hbt, hM⟩ := hrel
    have HBT := Lib.hid (And.intro hbl hbt)
    clear hbl hbt
    by_cases hlt : t < N
    · obtain ⟨c0, e0⟩ := HALL.out t hlt
      rw [Nat.zero_add] at e0
      obtain ⟨p, hp⟩ : ∃ p, p = place 2 o t := ⟨_, rfl⟩
      have hlen : p.length = 2 := by rw [hp]; exact place_len _ _ _
      have hin : Ins o p := by rw [hp]; exact place_ins _ _ _
      have HP := Lib.hid hp
      rw [← hp] at e0
      have hne : gs.getD t 0 ≠ g := by have := e0.lt; have := HG.out; omega
      have x0 : wr.cell? ⟨v, t, none⟩ = some (.slice (some ⟨gs.getD t 0, 0, none⟩) 2 2) := (hM.cell (by have := hm3.size; show v < _; omega) (by show v ≠ g; omega)).trans ((hm3.cell hvl (fun h => h)).trans c0)
      have e1 : Blk w3 (gs.getD t 0) 3 (ints p) := e0.mod (S := fun _ => False) hm3 (fun h => h)
      have e2 : Blk wr (gs.getD t 0) 3 (ints p) := e1.mod hM hne
      clear e0 e1 c0 hne hp
      obtain ⟨gt, hgt⟩ : ∃ gt, gt = gs.getD t 0 := ⟨_, rfl⟩
      rw [← hgt] at x0 e2
      clear hgt
      have HIN : Hid (Calls Tryd.prog 9 #[.int .i64 2, .int .i64 o, .slice (some ⟨gt, 0, none⟩) 2 2] wr fun e w' => e = .returned (.bool true) ∧ wr = w') := hiInside_yes gt o 2 p wr hlen (by decide) (by omega) hin e2
      have HL := Lib.hid hlen
      clear hlen
      go_wp2_with (go_at_call 9; refine HIN.out.mono ?_; rintro _ _ ⟨rfl, rfl⟩)
      go_loop [11, 63] (fun s i => ∃ a : Nat, a ≤ 2 ∧ i = .int .i64 a ∧ s = .int .i64 (code o 0 (p.take a))) (fun _ i => 2 - (intOf i).toNat)
      case atStart => exact ⟨0, by decide, rfl, by simp [code]⟩
      case round =>
        obtain ⟨a, ha, rfl, rfl⟩ := hrel
        by_cases hla : a < 2
        · have y0 : wr.cell? ⟨gt, a, none⟩ = some (.int .i64 (p.getD a 0)) := at_ints e2 (by rw [HL.out]; exact hla)
          have hx := hin.getD (i := a) (by rw [HL.out]; exact hla)
          have HT := Lib.hid (code_take o 0 p a (by rw [HL.out]; exact hla))
          have hcb := code_bd o (p.take a) 0 (by decide) (fun z hz => hin z (List.mem_of_mem_take hz))
          have hl2 : (p.take a).length = a := by rw [List.length_take, HL.out]; omega
          rw [hl2] at hcb
          obtain ⟨x, ex⟩ : ∃ x, x = p.getD a 0 := ⟨_, rfl⟩
          obtain ⟨s, es⟩ : ∃ s, s = code o 0 (p.take a) := ⟨_, rfl⟩
          rw [← ex] at y0 hx HT
          rw [← es] at hcb HT
          rw [← es]
          clear ex es hl2
          have hso : s * 2 ^ o ≤ 4096 ∧ 0 ≤ s * 2 ^ o := by
            have h3 : s * 2 ^ o ≤ 2 ^ (o * a) * 2 ^ o := Int.mul_le_mul_of_nonneg_right (by omega) (Int.le_of_lt (two_pow_pos o))
            have h4 : (2 : Int) ^ (o * a) * 2 ^ o = ((2 ^ (o * a + o) : Nat) : Int) := by rw [Int.natCast_pow, ← Int.pow_add]; rfl
            have h5 : 2 ^ (o * a + o) ≤ 2 ^ 12 := Nat.pow_le_pow_right (by omega) (by
              have : o * a + o = o * (a + 1) := by rw [Nat.mul_add]; omega
              rw [this]
              have : o * (a + 1) ≤ o * 2 := Nat.mul_le_mul_left _ (by omega)
              omega)
            exact ⟨by omega, Int.mul_nonneg hcb.1 (Int.le_of_lt (two_pow_pos o))⟩
          have hor := or_low o s x hcb.1 hx (by omega) (by omega)
          have hsh : wrap64 (s * 2 ^ o) = s * 2 ^ o := by unfold wrap64; omega
          have ho62 : o ≤ 62 := by omega
          clear hcb hx hso
          go_wp2
          go_round
          case rel => exact ⟨a + 1, by omega, by go_num, by rw [HT.out]⟩
          case measure => simp [intOf]; omega
        · obtain rfl : a = 2 := by omega
          obtain ⟨c, hc, hcN⟩ : ∃ c : Nat, code o 0 (p.take 2) = c ∧ c < N := by
            have hb := code_bd o p 0 (by decide) hin
            rw [List.take_of_length_le (by rw [HL.out]; exact Nat.le_refl _)]
            refine ⟨(code o 0 p).toNat, by omega, ?_⟩
            have e : ((0 : Int) + 1) * 2 ^ (o * p.length) = ((2 ^ (2 * o) : Nat) : Int) := by rw [Int.natCast_pow, HL.out, Nat.mul_comm]; simp
            rw [e, ← HN.out] at hb
            omega
          have hcI : (c : Int) < N := by omega
          have hbc : bs.getD c false = false := by
            cases hh : bs.getD c false with
            | false => rfl
            | true =>
              exfalso
              have h5 : bs[c]? = some true := by
                have : c < bs.length := by rw [HBT.out.1]; exact hcN
                simp [this] at hh ⊢
                exact hh
              obtain ⟨j, hj, hjc⟩ := HBT.out.2 c h5
              rw [List.take_of_length_le (by rw [HL.out]; exact Nat.le_refl _), HP.out] at hc
              have := code_place 2 (by omega) o j t (by rw [← HN.out]; omega) (by rw [← HN.out]; exact hlt) (by rw [hjc, hc])
              omega
          have z0 : wr.cell? ⟨g, c, none⟩ = some (.bool false) := by
            rw [hbk.cell]
            have : c < bs.length := by rw [HBT.out.1]; exact hcN
            rw [← hbc]
            simp [this]
          have f0 := hbk.frozen c
          have HC := Lib.hid hc
          clear hbc
          go_wp2_with fail
          go_roundw
          case rel =>
            refine ⟨t + 1, by omega, by go_num, bs.set c true, by rw [List.length_set]; exact HBT.out.1, ?_, ?_, hM.set (.inl rfl) _⟩
            · rw [List.map_set]; exact hbk.set c _
            · intro c' hc'
              by_cases hcc : c = c'
              · subst hcc
                refine ⟨t, by omega, ?_⟩
                have := HC.out
                rw [List.take_of_length_le (by rw [HL.out]; exact Nat.le_refl _), HP.out] at this
                exact this
              · rw [List.getElem?_set_ne hcc] at hc'
                obtain ⟨j, hj, hjc⟩ := HBT.out.2 c' hc'
                exact ⟨j, by omega, hjc⟩
          case measure => simp [intOf]; omega
    · obtain rfl : t = N := by omega
      obtain ⟨c0, e0⟩ := HALL.out (t - 1) (by omega)
      obtain ⟨c1, e1⟩ := HALL.out 0 (by omega)
      have hlast : place 2 o (0 + (t - 1)) = fin 2 o := by
        rw [Nat.zero_add, HN.out]; exact place_last 2 (by omega) o
      have hfirst : place 2 o (0 + 0) = List.replicate 2 0 := place_zero 2 (by omega) o
      rw [hlast] at e0
      rw [hfirst] at e1
      have toW : ∀ (q : Nat) (ys : List Int), Blk w2 q 3 (ints ys) → Blk wr q 3 (ints ys) := fun q ys hq => by
        have h6 : Blk w3 q 3 (ints ys) := hq.mod (S := fun _ => False) hm3 (fun h => h)
        exact h6.mod hM (by have := hq.lt; have := HG.out; omega)
      have toC : ∀ (i : Nat) (u : Value), w2.cell? ⟨v, i, none⟩ = some u → wr.cell? ⟨v, i, none⟩ = some u := fun i u hu =>
        (hM.cell (by have := hm3.size; show v < _; omega) (by show v ≠ g; omega)).trans ((hm3.cell hvl (fun h => h)).trans hu)
      have x0 := toC _ _ c0
      have x1 := toC _ _ c1
      have E0 := toW _ _ e0
      have E1 := toW _ _ e1
      clear toW toC c0 c1 e0 e1 hlast hfirst
      obtain ⟨g0, hg0⟩ : ∃ g0, g0 = gs.getD (t - 1) 0 := ⟨_, rfl⟩
      obtain ⟨g1, hg1⟩ : ∃ g1, g1 = gs.getD 0 0 := ⟨_, rfl⟩
      rw [← hg0] at x0 E0
      rw [← hg1] at x1 E1
      clear hg0 hg1
      go_wp2_with fail
      go_loop [15, 89] (fun c i => ∃ a : Nat, a ≤ 2 ∧ i = .int .i64 a ∧ c = .int .i64 (if a = 2 then 1 else 0)) (fun _ i => 2 - (intOf i).toNat)
      case atStart => exact ⟨0, by decide, rfl, by simp⟩
      case round =>
        obtain ⟨a, ha, rfl, rfl⟩ := hrel
        by_cases hla : a < 2
        · have hp0 := two_pow_le o (by omega)
          have hp1 : (2 : Int) ^ o = 2 * 2 ^ (o - 1) := by
            obtain ⟨o', rfl⟩ : ∃ o', o = o' + 1 := ⟨o - 1, by omega⟩
            rw [Nat.add_sub_cancel, Int.pow_succ]; omega
          have hp2 := two_pow_pos (o - 1)
          have hw1 : wrap64 (2 ^ o) = 2 ^ o := by unfold wrap64; omega
          have hw2 : wrap64 (2 ^ o - 1) = 2 ^ o - 1 := by unfold wrap64; omega
          have y0 : wr.cell? ⟨g0, a, none⟩ = some (.int .i64 ((fin 2 o).getD a 0)) := at_ints E0 (by simpa [fin] using hla)
          rw [fin_at 2 o a (by omega) hla] at y0
          by_cases hl1 : a + 1 = 2
          · rw [if_pos hl1] at y0
            obtain rfl : a = 2 - 1 := by omega
            have hq : ((2 : Int) ^ o - 1 == 2 ^ o - 1) = true := by simp
            clear hp0 hp1 hp2
            go_wp2
            go_round
            case rel => exact ⟨2, by decide, by simp, by simp⟩
            case measure => simp [intOf]
          · rw [if_neg hl1] at y0
            have hq : ((0 : Int) == 2 ^ o - 1) = false := by simp; omega
            have hif : (if a = 2 then (1 : Int) else 0) = 0 := if_neg (by omega)
            clear hp0 hp1 hp2
            go_wp2
            go_round
            case rel => exact ⟨a + 1, by omega, by go_num, by rw [if_neg hl1, hif]⟩
            case measure => simp [intOf]; omega
        · obtain rfl : a = 2 := by omega
          have hMM : Mod (fun _ => False) w wr := ((hm1.trans hm2).trans hm3).trans' hM (fun i hi h => by
            have := hm1.size
            have := hm2.size
            have := HG.out
            omega)
          have HMM := Lib.hid hMM
          have hgl := E1.lt
          have hvw : v < wr.heap.size := lt_of_cell x1
          clear hMM HALL HBT
          go_wp2_with fail
          go_region_with (go_at_call 10; refine (hiWay_zero g1 wr.heap.size 2 _ (by decide) (E1.alloc _).drew (Blk.new' wr #[.int .i64 0, .int .i64 0] 3).drew).mono ?_; rintro _ w4 ⟨rfl, hm4⟩)
          all_goals
            go_wp2_with fail
            go_ret
            refine ⟨?_, (HMM.out.alloc _).drew.trans hm4⟩
            simp [Act.put]

set_option maxRecDepth 100000 in
set_option maxHeartbeats 4000000 in
theorem whole3 (o : Nat) (w : World) (h1 : 1 ≤ o) (h2 : 3 * o ≤ 12) :
    Calls Tryd.prog 6 #[.int .i64 3, .int .i64 o] w fun e w' => e = .returned (.bool true) ∧ Mod (fun _ => False) w w' := by
  have H : Hid (true = decide (1 ≤ (o : Int) ∧ (o : Int) ≤ most 3)) := by
    have : most 3 = 20 := by decide
    rw [this]
    simp [Hid]
    omega
  obtain ⟨b, hb⟩ : ∃ b, b = 3 * o := ⟨_, rfl⟩
  have hbw : wrap64 (3 * (o : Int)) = b := by unfold wrap64; omega
  have hb12 : b ≤ 12 := by omega
  have hbI : (b : Int) ≤ 12 := by omega
  obtain ⟨N, hN⟩ : ∃ N, N = 2 ^ b := ⟨_, rfl⟩
  have hNI : (2 : Int) ^ b = N := by rw [hN, Int.natCast_pow]; rfl
  have hN12 : N ≤ 4096 := by rw [hN]; exact Nat.pow_le_pow_right (n := 2) (j := 12) (by omega) hb12
  have hN1 : 1 ≤ N := by rw [hN]; exact Nat.two_pow_pos b
  have hwN : wrap64 (N : Int) = N := by unfold wrap64; omega
  have HN : Hid (N = 2 ^ (3 * o)) := by rw [← hb]; exact hN
  clear hN hb
  obtain ⟨i0, hi0, hz0, hz1, hz2⟩ := info_parts info_bool
  have HI := Lib.hid (And.intro hi0 (And.intro hz0 (And.intro hz1 hz2)))
  clear hi0 hz0 hz1 hz2
  have hmk : ∀ w : World, (Instr.makeSlice 26 (.int .i64 3) (.int .i64 3)).run Tryd.prog w = .ok (.slice (some ⟨w.heap.size, 0, none⟩) 3 3) (w.alloc (.cells #[.int .i64 0, .int .i64 0, .int .i64 0] 3)) := fun _ => by kernel_rfl
  go_enter Tryd.func6, Tryd.ntmps6
  go_wp2_with (go_at_call 11; refine (hiOrder_gen 3 o _ _ H.out).mono ?_; rintro _ w1 ⟨rfl, hm1⟩)
  refine (hwalk_int'' 3 o 0 N _ _ _ _ rfl rfl (by first | rfl | omega) (by omega) h1 hN1 (by omega) (by omega)).mono ?_
  rintro _ w2 ⟨v, cap, gs, rfl, hm2, hvb, hvl, hall⟩
  have HALL := Lib.hid hall
  clear hall
  go_wp2_with (at_make; refine wpList_make_full _ rfl _ _ 33 rfl 0 4 i0 (.bool false) 1 Tryd.underlying33 HI.out.1 HI.out.2.1 HI.out.2.2.1 _ _ _ _ N rfl rfl rfl rfl (by rw [HI.out.2.2.2]; omega) (by unfold maxLen; omega) (Nat.zero_le _) ?_; intro w3 hown3 hgrow3)
  have hseen : Blk w3 w2.heap.size 4 ((List.replicate N false).map Value.bool) := by
    rw [← made_falses]; exact blk_of_full hown3
  have hm3 : Mod (fun _ => False) w2 w3 := ⟨hgrow3.os, hgrow3.tape, hgrow3.output, hgrow3.size, fun k hk _ => hgrow3.block k hk (by simp)⟩
  clear hown3 hgrow3
  obtain ⟨g, hg⟩ : ∃ g, g = w2.heap.size := ⟨_, rfl⟩
  rw [← hg]
  rw [← hg] at hseen
  have HG := Lib.hid hg
  have hvg : v < g := by omega
  clear hg
  go_loopw [52] (fun i wr => ∃ t : Nat, t ≤ N ∧ i = .int .i64 t ∧ ∃ bs : List Bool, bs.length = N ∧ Blk wr g 4 (bs.map Value.bool) ∧ (∀ c : Nat, bs[c]? = some true → ∃ j, j < t ∧ code o 0 (place 3 o j) = c) ∧ Mod (fun k => k = g) w3 wr) (fun i _ => N - (intOf i).toNat)
  case atStart =>
    refine ⟨0, Nat.zero_le _, rfl, List.replicate N false, by simp, hseen, fun c hc => ?_, Mod.refl _ _⟩
    rw [List.getElem?_replicate] at hc
    split at hc <;> cases hc
  clear hseen
  case round =>
    obtain ⟨t, ht, rfl, bs, hbl, hbk, hbt, hM⟩ := hrel
    have HBT := Lib.hid (And.intro hbl hbt)
    clear hbl hbt
    by_cases hlt : t < N
    · obtain ⟨c0, e0⟩ := HALL.out t hlt
      rw [Nat.zero_add] at e0
      obtain ⟨p, hp⟩ : ∃ p, p = place 3 o t := ⟨_, rfl⟩
      have hlen : p.length = 3 := by rw [hp]; exact place_len _ _ _
      have hin : Ins o p := by rw [hp]; exact place_ins _ _ _
      have HP := Lib.hid hp
      rw [← hp] at e0
      have hne : gs.getD t 0 ≠ g := by have := e0.lt; have := HG.out; omega
      have x0 : wr.cell? ⟨v, t, none⟩ = some (.slice (some ⟨gs.getD t 0, 0, none⟩) 3 3) := (hM.cell (by have := hm3.size; show v < _; omega) (by show v ≠ g; omega)).trans ((hm3.cell hvl (fun h => h)).trans c0)
      have e1 : Blk w3 (gs.getD t 0) 3 (ints p) := e0.mod (S := fun _ => False) hm3 (fun h => h)
      have e2 : Blk wr (gs.getD t 0) 3 (ints p) := e1.mod hM hne
      clear e0 e1 c0 hne hp
      obtain ⟨gt, hgt⟩ : ∃ gt, gt = gs.getD t 0 := ⟨_, rfl⟩
      rw [← hgt] at x0 e2
      clear hgt
      have HIN : Hid (Calls Tryd.prog 9 #[.int .i64 3, .int .i64 o, .slice (some ⟨gt, 0, none⟩) 3 3] wr fun e w' => e = .returned (.bool true) ∧ wr = w') := hiInside_yes gt o 3 p wr hlen (by decide) (by omega) hin e2
      have HL := Lib.hid hlen
      clear hlen
      go_wp2_with (go_at_call 9; refine HIN.out.mono ?_; rintro _ _ ⟨rfl, rfl⟩)
      go_loop [11, 63] (fun s i => ∃ a : Nat, a ≤ 3 ∧ i = .int .i64 a ∧ s = .int .i64 (code o 0 (p.take a))) (fun _ i => 3 - (intOf i).toNat)
      case atStart => exact ⟨0, by decide, rfl, by simp [code]⟩
      case round =>
        obtain ⟨a, ha, rfl, rfl⟩ := hrel
        by_cases hla : a < 3
        · have y0 : wr.cell? ⟨gt, a, none⟩ = some (.int .i64 (p.getD a 0)) := at_ints e2 (by rw [HL.out]; exact hla)
          have hx := hin.getD (i := a) (by rw [HL.out]; exact hla)
          have HT := Lib.hid (code_take o 0 p a (by rw [HL.out]; exact hla))
          have hcb := code_bd o (p.take a) 0 (by decide) (fun z hz => hin z (List.mem_of_mem_take hz))
          have hl2 : (p.take a).length = a := by rw [List.length_take, HL.out]; omega
          rw [hl2] at hcb
          obtain ⟨x, ex⟩ : ∃ x, x = p.getD a 0 := ⟨_, rfl⟩
          obtain ⟨s, es⟩ : ∃ s, s = code o 0 (p.take a) := ⟨_, rfl⟩
          rw [← ex] at y0 hx HT
          rw [← es] at hcb HT
          rw [← es]
          clear ex es hl2
          have hso : s * 2 ^ o ≤ 4096 ∧ 0 ≤ s * 2 ^ o := by
            have h3 : s * 2 ^ o ≤ 2 ^ (o * a) * 2 ^ o := Int.mul_le_mul_of_nonneg_right (by omega) (Int.le_of_lt (two_pow_pos o))
            have h4 : (2 : Int) ^ (o * a) * 2 ^ o = ((2 ^ (o * a + o) : Nat) : Int) := by rw [Int.natCast_pow, ← Int.pow_add]; rfl
            have h5 : 2 ^ (o * a + o) ≤ 2 ^ 12 := Nat.pow_le_pow_right (by omega) (by
              have : o * a + o = o * (a + 1) := by rw [Nat.mul_add]; omega
              rw [this]
              have : o * (a + 1) ≤ o * 3 := Nat.mul_le_mul_left _ (by omega)
              omega)
            exact ⟨by omega, Int.mul_nonneg hcb.1 (Int.le_of_lt (two_pow_pos o))⟩
          have hor := or_low o s x hcb.1 hx (by omega) (by omega)
          have hsh : wrap64 (s * 2 ^ o) = s * 2 ^ o := by unfold wrap64; omega
          have ho62 : o ≤ 62 := by omega
          clear hcb hx hso
          go_wp2
          go_round
          case rel => exact ⟨a + 1, by omega, by go_num, by rw [HT.out]⟩
          case measure => simp [intOf]; omega
        · obtain rfl : a = 3 := by omega
          obtain ⟨c, hc, hcN⟩ : ∃ c : Nat, code o 0 (p.take 3) = c ∧ c < N := by
            have hb := code_bd o p 0 (by decide) hin
            rw [List.take_of_length_le (by rw [HL.out]; exact Nat.le_refl _)]
            refine ⟨(code o 0 p).toNat, by omega, ?_⟩
            have e : ((0 : Int) + 1) * 2 ^ (o * p.length) = ((2 ^ (3 * o) : Nat) : Int) := by rw [Int.natCast_pow, HL.out, Nat.mul_comm]; simp
            rw [e, ← HN.out] at hb
            omega
          have hcI : (c : Int) < N := by omega
          have hbc : bs.getD c false = false := by
            cases hh : bs.getD c false with
            | false => rfl
            | true =>
              exfalso
              have h5 : bs[c]? = some true := by
                have : c < bs.length := by rw [HBT.out.1]; exact hcN
                simp [this] at hh ⊢
                exact hh
              obtain ⟨j, hj, hjc⟩ := HBT.out.2 c h5
              rw [List.take_of_length_le (by rw [HL.out]; exact Nat.le_refl _), HP.out] at hc
              have := code_place 3 (by omega) o j t (by rw [← HN.out]; omega) (by rw [← HN.out]; exact hlt) (by rw [hjc, hc])
              omega
          have z0 : wr.cell? ⟨g, c, none⟩ = some (.bool false) := by
            rw [hbk.cell]
            have : c < bs.length := by rw [HBT.out.1]; exact hcN
            rw [← hbc]
            simp [this]
          have f0 := hbk.frozen c
          have HC := Lib.hid hc
          clear hbc
          go_wp2_with fail
          go_roundw
          case rel =>
            refine ⟨t + 1, by omega, by go_num, bs.set c true, by rw [List.length_set]; exact HBT.out.1, ?_, ?_, hM.set (.inl rfl) _⟩
            · rw [List.map_set]; exact hbk.set c _
            · intro c' hc'
              by_cases hcc : c = c'
              · subst hcc
                refine ⟨t, by omega, ?_⟩
                have := HC.out
                rw [List.take_of_length_le (by rw [HL.out]; exact Nat.le_refl _), HP.out] at this
                exact this
              · rw [List.getElem?_set_ne hcc] at hc'
                obtain ⟨j, hj, hjc⟩ := HBT.out.2 c' hc'
                exact ⟨j, by omega, hjc⟩
          case measure => simp [intOf]; omega
    · obtain rfl : t = N := by omega
      obtain ⟨c0, e0⟩ := HALL.out (t - 1) (by omega)
      obtain ⟨c1, e1⟩ := HALL.out 0 (by omega)
      have hlast : place 3 o (0 + (t - 1)) = fin 3 o := by
        rw [Nat.zero_add, HN.out]; exact place_last 3 (by omega) o
      have hfirst : place 3 o (0 + 0) = List.replicate 3 0 := place_zero 3 (by omega) o
      rw [hlast] at e0
      rw [hfirst] at e1
      have toW : ∀ (q : Nat) (ys : List Int), Blk w2 q 3 (ints ys) → Blk wr q 3 (ints ys) := fun q ys hq => by
        have h6 : Blk w3 q 3 (ints ys) := hq.mod (S := fun _ => False) hm3 (fun h => h)
        exact h6.mod hM (by have := hq.lt; have := HG.out; omega)
      have toC : ∀ (i : Nat) (u : Value), w2.cell? ⟨v, i, none⟩ = some u → wr.cell? ⟨v, i, none⟩ = some u := fun i u hu =>
        (hM.cell (by have := hm3.size; show v < _; omega) (by show v ≠ g; omega)).trans ((hm3.cell hvl (fun h => h)).trans hu)
      have x0 := toC _ _ c0
      have x1 := toC _ _ c1
      have E0 := toW _ _ e0
      have E1 := toW _ _ e1
      clear toW toC c0 c1 e0 e1 hlast hfirst
      obtain ⟨g0, hg0⟩ : ∃ g0, g0 = gs.getD (t - 1) 0 := ⟨_, rfl⟩
      obtain ⟨g1, hg1⟩ : ∃ g1, g1 = gs.getD 0 0 := ⟨_, rfl⟩
      rw [← hg0] at x0 E0
      rw [← hg1] at x1 E1
      clear hg0 hg1
      go_wp2_with fail
      go_loop [15, 89] (fun c i => ∃ a : Nat, a ≤ 3 ∧ i = .int .i64 a ∧ c = .int .i64 (if a = 3 then 1 else 0)) (fun _ i => 3 - (intOf i).toNat)
      case atStart => exact ⟨0, by decide, rfl, by simp⟩
      case round =>
        obtain ⟨a, ha, rfl, rfl⟩ := hrel
        by_cases hla : a < 3
        · have hp0 := two_pow_le o (by omega)
          have hp1 : (2 : Int) ^ o = 2 * 2 ^ (o - 1) := by
            obtain ⟨o', rfl⟩ : ∃ o', o = o' + 1 := ⟨o - 1, by omega⟩
            rw [Nat.add_sub_cancel, Int.pow_succ]; omega
          have hp2 := two_pow_pos (o - 1)
          have hw1 : wrap64 (2 ^ o) = 2 ^ o := by unfold wrap64; omega
          have hw2 : wrap64 (2 ^ o - 1) = 2 ^ o - 1 := by unfold wrap64; omega
          have y0 : wr.cell? ⟨g0, a, none⟩ = some (.int .i64 ((fin 3 o).getD a 0)) := at_ints E0 (by simpa [fin] using hla)
          rw [fin_at 3 o a (by omega) hla] at y0
          by_cases hl1 : a + 1 = 3
          · rw [if_pos hl1] at y0
            obtain rfl : a = 3 - 1 := by omega
            have hq : ((2 : Int) ^ o - 1 == 2 ^ o - 1) = true := by simp
            clear hp0 hp1 hp2
            go_wp2
            go_round
            case rel => exact ⟨3, by decide, by simp, by simp⟩
            case measure => simp [intOf]
          · rw [if_neg hl1] at y0
            have hq : ((0 : Int) == 2 ^ o - 1) = false := by simp; omega
            have hif : (if a = 3 then (1 : Int) else 0) = 0 := if_neg (by omega)
            clear hp0 hp1 hp2
            go_wp2
            go_round
            case rel => exact ⟨a + 1, by omega, by go_num, by rw [if_neg hl1, hif]⟩
            case measure => simp [intOf]; omega
        · obtain rfl : a = 3 := by omega
          have hMM : Mod (fun _ => False) w wr := ((hm1.trans hm2).trans hm3).trans' hM (fun i hi h => by
            have := hm1.size
            have := hm2.size
            have := HG.out
            omega)
          have HMM := Lib.hid hMM
          have hgl := E1.lt
          have hvw : v < wr.heap.size := lt_of_cell x1
          clear hMM HALL HBT
          go_wp2_with fail
          go_region_with (go_at_call 10; refine (hiWay_zero g1 wr.heap.size 3 _ (by decide) (E1.alloc _).drew (Blk.new' wr #[.int .i64 0, .int .i64 0, .int .i64 0] 3).drew).mono ?_; rintro _ w4 ⟨rfl, hm4⟩)
          all_goals
            go_wp2_with fail
            go_ret
            refine ⟨?_, (HMM.out.alloc _).drew.trans hm4⟩
            simp [Act.put]

set_option maxRecDepth 100000 in
set_option maxHeartbeats 4000000 in
theorem whole4 (o : Nat) (w : World) (h1 : 1 ≤ o) (h2 : 4 * o ≤ 12) :
    Calls Tryd.prog 6 #[.int .i64 4, .int .i64 o] w fun e w' => e = .returned (.bool true) ∧ Mod (fun _ => False) w w' := by
  have H : Hid (true = decide (1 ≤ (o : Int) ∧ (o : Int) ≤ most 4)) := by
    have : most 4 = 15 := by decide
    rw [this]
    simp [Hid]
    omega
  obtain ⟨b, hb⟩ : ∃ b, b = 4 * o := ⟨_, rfl⟩
  have hbw : wrap64 (4 * (o : Int)) = b := by unfold wrap64; omega
  have hb12 : b ≤ 12 := by omega
  have hbI : (b : Int) ≤ 12 := by omega
  obtain ⟨N, hN⟩ : ∃ N, N = 2 ^ b := ⟨_, rfl⟩
  have hNI : (2 : Int) ^ b = N := by rw [hN, Int.natCast_pow]; rfl
  have hN12 : N ≤ 4096 := by rw [hN]; exact Nat.pow_le_pow_right (n := 2) (j := 12) (by omega) hb12
  have hN1 : 1 ≤ N := by rw [hN]; exact Nat.two_pow_pos b
  have hwN : wrap64 (N : Int) = N := by unfold wrap64; omega
  have HN : Hid (N = 2 ^ (4 * o)) := by rw [← hb]; exact hN
  clear hN hb
  obtain ⟨i0, hi0, hz0, hz1, hz2⟩ := info_parts info_bool
  have HI := Lib.hid (And.intro hi0 (And.intro hz0 (And.intro hz1 hz2)))
  clear hi0 hz0 hz1 hz2
  have hmk : ∀ w : World, (Instr.makeSlice 26 (.int .i64 4) (.int .i64 4)).run Tryd.prog w = .ok (.slice (some ⟨w.heap.size, 0, none⟩) 4 4) (w.alloc (.cells #[.int .i64 0, .int .i64 0, .int .i64 0, .int .i64 0] 3)) := fun _ => by kernel_rfl
  go_enter Tryd.func6, Tryd.ntmps6
  go_wp2_with (go_at_call 11; refine (hiOrder_gen 4 o _ _ H.out).mono ?_; rintro _ w1 ⟨rfl, hm1⟩)
  refine (hwalk_int'' 4 o 0 N _ _ _ _ rfl rfl (by first | rfl | omega) (by omega) h1 hN1 (by omega) (by omega)).mono ?_
  rintro _ w2 ⟨v, cap, gs, rfl, hm2, hvb, hvl, hall⟩
  have HALL := Lib.hid hall
  clear hall
  go_wp2_with (at_make; refine wpList_make_full _ rfl _ _ 33 rfl 0 4 i0 (.bool false) 1 Tryd.underlying33 HI.out.1 HI.out.2.1 HI.out.2.2.1 _ _ _ _ N rfl rfl rfl rfl (by rw [HI.out.2.2.2]; omega) (by unfold maxLen; omega) (Nat.zero_le _) ?_; intro w3 hown3 hgrow3)
  have hseen : Blk w3 w2.heap.size 4 ((List.replicate N false).map Value.bool) := by
    rw [← made_falses]; exact blk_of_full hown3
  have hm3 : Mod (fun _ => False) w2 w3 := ⟨hgrow3.os, hgrow3.tape, hgrow3.output, hgrow3.size, fun k hk _ => hgrow3.block k hk (by simp)⟩
  clear hown3 hgrow3
  obtain ⟨g, hg⟩ : ∃ g, g = w2.heap.size := ⟨_, rfl⟩
  rw [← hg]
  rw [← hg] at hseen
  have HG := Lib.hid hg
  have hvg : v < g := by omega
  clear hg
  go_loopw [52] (fun i wr => ∃ t : Nat, t ≤ N ∧ i = .int .i64 t ∧ ∃ bs : List Bool, bs.length = N ∧ Blk wr g 4 (bs.map Value.bool) ∧ (∀ c : Nat, bs[c]? = some true → ∃ j, j < t ∧ code o 0 (place 4 o j) = c) ∧ Mod (fun k => k = g) w3 wr) (fun i _ => N - (intOf i).toNat)
  case atStart =>
    refine ⟨0, Nat.zero_le _, rfl, List.replicate N false, by simp, hseen, fun c hc => ?_, Mod.refl _ _⟩
    rw [List.getElem?_replicate] at hc
    split at hc <;> cases hc
  clear hseen
  case round =>
    obtain ⟨t, ht, rfl, bs, hbl, hbk, hbt, hM⟩ := hrel
    have HBT := Lib.hid (And.intro hbl hbt)
    clear hbl hbt
    by_cases hlt : t < N
    · obtain ⟨c0, e0⟩ := HALL.out t hlt
      rw [Nat.zero_add] at e0
      obtain ⟨p, hp⟩ : ∃ p, p = place 4 o t := ⟨_, rfl⟩
      have hlen : p.length = 4 := by rw [hp]; exact place_len _ _ _
      have hin : Ins o p := by rw [hp]; exact place_ins _ _ _
      have HP := Lib.hid hp
      rw [← hp] at e0
      have hne : gs.getD t 0 ≠ g := by have := e0.lt; have := HG.out; omega
      have x0 : wr.cell? ⟨v, t, none⟩ = some (.slice (some ⟨gs.getD t 0, 0, none⟩) 4 4) := (hM.cell (by have := hm3.size; show v < _; omega) (by show v ≠ g; omega)).trans ((hm3.cell hvl (fun h => h)).trans c0)
      have e1 : Blk w3 (gs.getD t 0) 3 (ints p) := e0.mod (S := fun _ => False) hm3 (fun h => h)
      have e2 : Blk wr (gs.getD t 0) 3 (ints p) := e1.mod hM hne
      clear e0 e1 c0 hne hp
      obtain ⟨gt, hgt⟩ : ∃ gt, gt = gs.getD t 0 := ⟨_, rfl⟩
      rw [← hgt] at x0 e2
      clear hgt
      have HIN : Hid (Calls Tryd.prog 9 #[.int .i64 4, .int .i64 o, .slice (some ⟨gt, 0, none⟩) 4 4] wr fun e w' => e = .returned (.bool true) ∧ wr = w') := hiInside_yes gt o 4 p wr hlen (by decide) (by omega) hin e2
      have HL := Lib.hid hlen
      clear hlen
      go_wp2_with (go_at_call 9; refine HIN.out.mono ?_; rintro _ _ ⟨rfl, rfl⟩)
      go_loop [11, 63] (fun s i => ∃ a : Nat, a ≤ 4 ∧ i = .int .i64 a ∧ s = .int .i64 (code o 0 (p.take a))) (fun _ i => 4 - (intOf i).toNat)
      case atStart => exact ⟨0, by decide, rfl, by simp [code]⟩
      case round =>
        obtain ⟨a, ha, rfl, rfl⟩ := hrel
        by_cases hla : a < 4
        · have y0 : wr.cell? ⟨gt, a, none⟩ = some (.int .i64 (p.getD a 0)) := at_ints e2 (by rw [HL.out]; exact hla)
          have hx := hin.getD (i := a) (by rw [HL.out]; exact hla)
          have HT := Lib.hid (code_take o 0 p a (by rw [HL.out]; exact hla))
          have hcb := code_bd o (p.take a) 0 (by decide) (fun z hz => hin z (List.mem_of_mem_take hz))
          have hl2 : (p.take a).length = a := by rw [List.length_take, HL.out]; omega
          rw [hl2] at hcb
          obtain ⟨x, ex⟩ : ∃ x, x = p.getD a 0 := ⟨_, rfl⟩
          obtain ⟨s, es⟩ : ∃ s, s = code o 0 (p.take a) := ⟨_, rfl⟩
          rw [← ex] at y0 hx HT
          rw [← es] at hcb HT
          rw [← es]
          clear ex es hl2
          have hso : s * 2 ^ o ≤ 4096 ∧ 0 ≤ s * 2 ^ o := by
            have h3 : s * 2 ^ o ≤ 2 ^ (o * a) * 2 ^ o := Int.mul_le_mul_of_nonneg_right (by omega) (Int.le_of_lt (two_pow_pos o))
            have h4 : (2 : Int) ^ (o * a) * 2 ^ o = ((2 ^ (o * a + o) : Nat) : Int) := by rw [Int.natCast_pow, ← Int.pow_add]; rfl
            have h5 : 2 ^ (o * a + o) ≤ 2 ^ 12 := Nat.pow_le_pow_right (by omega) (by
              have : o * a + o = o * (a + 1) := by rw [Nat.mul_add]; omega
              rw [this]
              have : o * (a + 1) ≤ o * 4 := Nat.mul_le_mul_left _ (by omega)
              omega)
            exact ⟨by omega, Int.mul_nonneg hcb.1 (Int.le_of_lt (two_pow_pos o))⟩
          have hor := or_low o s x hcb.1 hx (by omega) (by omega)
          have hsh : wrap64 (s * 2 ^ o) = s * 2 ^ o := by unfold wrap64; omega
          have ho62 : o ≤ 62 := by omega
          clear hcb hx hso
          go_wp2
          go_round
          case rel => exact ⟨a + 1, by omega, by go_num, by rw [HT.out]⟩
          case measure => simp [intOf]; omega
        · obtain rfl : a = 4 := by omega
          obtain ⟨c, hc, hcN⟩ : ∃ c : Nat, code o 0 (p.take 4) = c ∧ c < N := by
            have hb := code_bd o p 0 (by decide) hin
            rw [List.take_of_length_le (by rw [HL.out]; exact Nat.le_refl _)]
            refine ⟨(code o 0 p).toNat, by omega, ?_⟩
            have e : ((0 : Int) + 1) * 2 ^ (o * p.length) = ((2 ^ (4 * o) : Nat) : Int) := by rw [Int.natCast_pow, HL.out, Nat.mul_comm]; simp
            rw [e, ← HN.out] at hb
            omega
          have hcI : (c : Int) < N := by omega
          have hbc : bs.getD c false = false := by
            cases hh : bs.getD c false with
            | false => rfl
            | true =>
              exfalso
              have h5 : bs[c]? = some true := by
                have : c < bs.length := by rw [HBT.out.1]; exact hcN
                simp [this] at hh ⊢
                exact hh
              obtain ⟨j, hj, hjc⟩ := HBT.out.2 c h5
              rw [List.take_of_length_le (by rw [HL.out]; exact Nat.le_refl _), HP.out] at hc
              have := code_place 4 (by omega) o j t (by rw [← HN.out]; omega) (by rw [← HN.out]; exact hlt) (by rw [hjc, hc])
              omega
          have z0 : wr.cell? ⟨g, c, none⟩ = some (.bool false) := by
            rw [hbk.cell]
            have : c < bs.length := by rw [HBT.out.1]; exact hcN
            rw [← hbc]
            simp [this]
          have f0 := hbk.frozen c
          have HC := Lib.hid hc
          clear hbc
          go_wp2_with fail
          go_roundw
          case rel =>
            refine ⟨t + 1, by omega, by go_num, bs.set c true, by rw [List.length_set]; exact HBT.out.1, ?_, ?_, hM.set (.inl rfl) _⟩
            · rw [List.map_set]; exact hbk.set c _
            · intro c' hc'
              by_cases hcc : c = c'
              · subst hcc
                refine ⟨t, by omega, ?_⟩
                have := HC.out
                rw [List.take_of_length_le (by rw [HL.out]; exact Nat.le_refl _), HP.out] at this
                exact this
              · rw [List.getElem?_set_ne hcc] at hc'
                obtain ⟨j, hj, hjc⟩ := HBT.out.2 c' hc'
                exact ⟨j, by omega, hjc⟩
          case measure => simp [intOf]; omega
    · obtain rfl : t = N := by omega
      obtain ⟨c0, e0⟩ := HALL.out (t - 1) (by omega)
      obtain ⟨c1, e1⟩ := HALL.out 0 (by omega)
      have hlast : place 4 o (0 + (t - 1)) = fin 4 o := by
        rw [Nat.zero_add, HN.out]; exact place_last 4 (by omega) o
      have hfirst : place 4 o (0 + 0) = List.replicate 4 0 := place_zero 4 (by omega) o
      rw [hlast] at e0
      rw [hfirst] at e1
      have toW : ∀ (q : Nat) (ys : List Int), Blk w2 q 3 (ints ys) → Blk wr q 3 (ints ys) := fun q ys hq => by
        have h6 : Blk w3 q 3 (ints ys) := hq.mod (S := fun _ => False) hm3 (fun h => h)
        exact h6.mod hM (by have := hq.lt; have := HG.out; omega)
      have toC : ∀ (i : Nat) (u : Value), w2.cell? ⟨v, i, none⟩ = some u → wr.cell? ⟨v, i, none⟩ = some u := fun i u hu =>
        (hM.cell (by have := hm3.size; show v < _; omega) (by show v ≠ g; omega)).trans ((hm3.cell hvl (fun h => h)).trans hu)
      have x0 := toC _ _ c0
      have x1 := toC _ _ c1
      have E0 := toW _ _ e0
      have E1 := toW _ _ e1
      clear toW toC c0 c1 e0 e1 hlast hfirst
      obtain ⟨g0, hg0⟩ : ∃ g0, g0 = gs.getD (t - 1) 0 := ⟨_, rfl⟩
      obtain ⟨g1, hg1⟩ : ∃ g1, g1 = gs.getD 0 0 := ⟨_, rfl⟩
      rw [← hg0] at x0 E0
      rw [← hg1] at x1 E1
      clear hg0 hg1
      go_wp2_with fail
      go_loop [15, 89] (fun c i => ∃ a : Nat, a ≤ 4 ∧ i = .int .i64 a ∧ c = .int .i64 (if a = 4 then 1 else 0)) (fun _ i => 4 - (intOf i).toNat)
      case atStart => exact ⟨0, by decide, rfl, by simp⟩
      case round =>
        obtain ⟨a, ha, rfl, rfl⟩ := hrel
        by_cases hla : a < 4
        · have hp0 := two_pow_le o (by omega)
          have hp1 : (2 : Int) ^ o = 2 * 2 ^ (o - 1) := by
            obtain ⟨o', rfl⟩ : ∃ o', o = o' + 1 := ⟨o - 1, by omega⟩
            rw [Nat.add_sub_cancel, Int.pow_succ]; omega
          have hp2 := two_pow_pos (o - 1)
          have hw1 : wrap64 (2 ^ o) = 2 ^ o := by unfold wrap64; omega
          have hw2 : wrap64 (2 ^ o - 1) = 2 ^ o - 1 := by unfold wrap64; omega
          have y0 : wr.cell? ⟨g0, a, none⟩ = some (.int .i64 ((fin 4 o).getD a 0)) := at_ints E0 (by simpa [fin] using hla)
          rw [fin_at 4 o a (by omega) hla] at y0
          by_cases hl1 : a + 1 = 4
          · rw [if_pos hl1] at y0
            obtain rfl : a = 4 - 1 := by omega
            have hq : ((2 : Int) ^ o - 1 == 2 ^ o - 1) = true := by simp
            clear hp0 hp1 hp2
            go_wp2
            go_round
            case rel => exact ⟨4, by decide, by simp, by simp⟩
            case measure => simp [intOf]
          · rw [if_neg hl1] at y0
            have hq : ((0 : Int) == 2 ^ o - 1) = false := by simp; omega
            have hif : (if a = 4 then (1 : Int) else 0) = 0 := if_neg (by omega)
            clear hp0 hp1 hp2
            go_wp2
            go_round
            case rel => exact ⟨a + 1, by omega, by go_num, by rw [if_neg hl1, hif]⟩
            case measure => simp [intOf]; omega
        · obtain rfl : a = 4 := by omega
          have hMM : Mod (fun _ => False) w wr := ((hm1.trans hm2).trans hm3).trans' hM (fun i hi h => by
            have := hm1.size
            have := hm2.size
            have := HG.out
            omega)
          have HMM := Lib.hid hMM
          have hgl := E1.lt
          have hvw : v < wr.heap.size := lt_of_cell x1
          clear hMM HALL HBT
          go_wp2_with fail
          go_region_with (go_at_call 10; refine (hiWay_zero g1 wr.heap.size 4 _ (by decide) (E1.alloc _).drew (Blk.new' wr #[.int .i64 0, .int .i64 0, .int .i64 0, .int .i64 0] 3).drew).mono ?_; rintro _ w4 ⟨rfl, hm4⟩)
          all_goals
            go_wp2_with fail
            go_ret
            refine ⟨?_, (HMM.out.alloc _).drew.trans hm4⟩
            simp [Act.put]

theorem walk_fnHiWhole (d o : Int) (w0 : (Lit.int .i64 d).wf = true) (w1 : (Lit.int .i64 o).wf = true) (w : World) :
    Calls Tryd.prog 6 #[.int .i64 d, .int .i64 o] w fun e w' => e = .returned (.bool true) ∧ Below w.heap.size w w' := by
  by_cases h : 1 ≤ o ∧ o ≤ most d
  · by_cases hb : 12 < d * o
    · exact (whole_no2 d o w h hb).mono fun e w' ⟨he, hm⟩ => ⟨he, hm.toBelow⟩
    · obtain ⟨O, rfl⟩ : ∃ O : Nat, o = O := ⟨o.toNat, by omega⟩
      rcases most_cases d O h.1 h.2 with ⟨rfl, h⟩ | ⟨rfl, h⟩ | ⟨rfl, h⟩
      · exact (whole2 O w (by omega) (by omega)).mono fun e w' ⟨he, hm⟩ => ⟨he, hm.toBelow⟩
      · exact (whole3 O w (by omega) (by omega)).mono fun e w' ⟨he, hm⟩ => ⟨he, hm.toBelow⟩
      · exact (whole4 O w (by omega) (by omega)).mono fun e w' ⟨he, hm⟩ => ⟨he, hm.toBelow⟩
  · exact (whole_no1 d o w h).mono fun e w' ⟨he, hm⟩ => ⟨he, hm.toBelow⟩
end Go.Proofs.YtidbohofjljkcaaDoor
