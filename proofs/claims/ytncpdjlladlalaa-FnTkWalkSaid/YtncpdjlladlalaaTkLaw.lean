/- The walk of FnTkWalk: it answers true, and what came in is as it was. Conditions: none on the numbers. -/
import Derived.Test.YtncpdjlladlalaaTkRow2
import Derived.Test.YtncpdjlladlalaaTkGiven
import Derived.Test.YtncpdjlladlalaaTkEdge
import Derived.Deep.RegionLaw
import Derived.Deep.QuietTactic
import Derived.Deep.DrawnRows
namespace Go.Proofs.Ytncpdjlladlalaa
open Go.RowKit Lox
set_option linter.unusedVariables false
attribute [local go_sem] run_store_flt run_store_fn undef
attribute [local go_sem ↓] Go.wp_at_zero Go.wp_at_succ

/-- The law answers true, and nothing that was there has turned. -/
def Yes (w : World) (e : Ending) (w' : World) : Prop := e = .returned (.bool true) ∧ Mod (fun _ => False) w w'

theorem not_false {b : Bool} (h : (!b) = false) : b = true := by simpa using h

set_option maxRecDepth 100000 in
set_option maxHeartbeats 8000000 in
theorem fnTkWalk_at (T : Option Addr) (c k : Nat) (xs : List KN) (stop : Int) (w : World) (hn : k = xs.length) (hN : KNodes w T xs) :
    Calls Try.prog 4 #[.slice T k c, .int .i64 stop] w (Yes w) := by
  have hnl : k ≤ 9223372036854775807 := by rw [hn]; exact hN.1
  have HN := Lib.hid (And.intro hN hn)
  clear hN hn
  go_enter Try.func4, Try.ntmps4
  by_cases hbig : 2147483647 < k
  · go_wp2_with (go_at_call 13; refine (fits8_no T c k w hbig).mono ?_; rintro _ w1 ⟨rfl, rfl⟩)
    go_ret
    exact ⟨rfl, Mod.refl _ _⟩
  · by_cases h0 : k = 0
    · subst h0
      go_wp2_with (first | (go_at_call 13; refine (fits8_any T c 0 xs w HN.out.2 HN.out.1).mono ?_; rintro _ w1 ⟨⟨b1, rfl, hb1⟩, hm1⟩; have HB := Lib.hid hb1; clear hb1) | (go_at_call 14; refine (vwalk_empty T c _).mono ?_; rintro _ w2 ⟨rfl, hm2⟩) | (go_at_call 15; refine (given_at T c 0 xs _ HN.out.2 (HN.out.1.mod (hm1.trans hm2)) (HB.out (not_false (by assumption)))).mono ?_; rintro _ w3 ⟨b3, rfl, hm3, hb3⟩; obtain rfl : b3 = false := (by cases b3; rfl; exact absurd (hb3 rfl).1 (by omega)); clear hb3))
      all_goals
        go_ret
        first
          | exact ⟨rfl, hm1⟩
          | exact ⟨rfl, (hm1.trans hm2).trans hm3⟩
    · obtain ⟨b, o, e, hc⟩ := HN.out.1.2.1 (by rw [← HN.out.2]; omega)
      have HX : Hid (∀ (i : Nat) (x : KN), xs[i]? = some x → x.At w b (o + i * 6)) := hc
      clear hc
      subst e
      go_wp2_with (first | (go_at_call 13; refine (fits8_any _ c k xs w HN.out.2 HN.out.1).mono ?_; rintro _ w1 ⟨⟨b1, rfl, hb1⟩, hm1⟩; have HB := Lib.hid hb1; clear hb1) | (go_at_call 14; refine (vwalk_at (some ⟨b, o, none⟩) c k xs _ HN.out.2 (by omega) (by omega) (HN.out.1.mod hm1)).mono ?_; rintro _ w2 ⟨A1, c1, m, A2, c2, os, ds, is, rfl, hm2, hs1, hs2, his⟩; have HS1 := Lib.hid (And.intro hs1 (And.intro hs2 his)); clear hs1 hs2 his) | (go_at_call 15; refine (given_at _ c k xs _ HN.out.2 (HN.out.1.mod (hm1.trans hm2)) (HB.out (not_false (by assumption)))).mono ?_; rintro _ wo ⟨b3, rfl, hmg, hb3⟩; have HB3 := Lib.hid hb3; clear hb3))
      all_goals first
        | (go_ret; first | exact ⟨rfl, hm1⟩ | exact ⟨rfl, hm1.trans hm2⟩ | exact ⟨rfl, (hm1.trans hm2).trans hmg⟩)
        | skip
      have hm := hm1.trans hm2
      have hisT : is = true := by first | rfl | assumption | exact not_false (by assumption)
      have hgT : b3 = true := by first | rfl | assumption | exact not_false (by assumption)
      obtain ⟨hs1, hs2, his⟩ := HS1.out
      obtain ⟨emn, hos, hds⟩ := his hisT (by omega)
      have emn' := emn.symm
      subst emn'
      obtain ⟨_, hsm, hall⟩ := HB3.out hgT
      have HO : Hid (Sl w2 A1 k 1 (ints os) ∧ Sl w2 A2 k 1 (ints ds) ∧ os = (ino (KC xs) (KF xs) k 0 0).map (·.1) ∧ ds = (ino (KC xs) (KF xs) k 0 0).map (·.2) ∧ Mod (fun _ => False) w w2) := ⟨hs1, hs2, hos, hds, hm⟩
      have hP : ∀ x ∈ xs, (0 < x.p.n ∧ x.p.n ≤ 4) ∧ (x.mn.n = 0 ∨ (0 < x.mn.n ∧ x.mn.n ≤ 4 ∧ 0 < x.mx.n ∧ x.mx.n ≤ 4)) := fun x hx => (hall x hx).1
      clear hm1 hm2 hs1 hs2 hos hds his HS1 HB3 HB hm
      have hIl : (ino (KC xs) (KF xs) k 0 0).length = k := by
        have h1 := HO.out.1.1
        rw [HO.out.2.2.1] at h1
        simpa [ints] using h1
      obtain ⟨L, hL⟩ : ∃ L, L = (ino (KC xs) (KF xs) k 0 0).map fun p => (PX xs p.1, p.2) := ⟨_, rfl⟩
      have hLl : L.length = k := by rw [hL, List.length_map]; exact hIl
      obtain ⟨m, hm⟩ : ∃ m, m = (cut stop L).length := ⟨_, rfl⟩
      obtain ⟨sb, hsb⟩ : ∃ sb, sb = stopped stop L := ⟨_, rfl⟩
      have hcl := cut_len stop L
      rw [← hm, ← hsb, hLl] at hcl
      have HP : Hid ((∀ x ∈ xs, (0 < x.p.n ∧ x.p.n ≤ 4) ∧ (x.mn.n = 0 ∨ (0 < x.mn.n ∧ x.mn.n ≤ 4 ∧ 0 < x.mx.n ∧ x.mx.n ≤ 4))) ∧ (∀ x ∈ xs, ∀ y ∈ x.p.xs, Num y) ∧ (ino (KC xs) (KF xs) k 0 0).length = k ∧ L = (ino (KC xs) (KF xs) k 0 0).map (fun p => (PX xs p.1, p.2)) ∧ m = (cut stop L).length ∧ sb = stopped stop L) := ⟨hP, fun x hx => (hall x hx).2, hIl, hL, hm, hsb⟩
      have hNk : KNodes wo (some ⟨b, o, none⟩) xs := HN.out.1.mod (HO.out.2.2.2.2.trans hmg)
      have hV : Calls Try.prog 16 #[.slice (some ⟨b, o, none⟩) k c, .int .i64 stop] wo (fun e w3 => ∃ B1 e1 B2 e2 gs, e = .returned (.tuple #[.slice B1 m e1, .slice B2 m e2, .bool sb, .bool true]) ∧ Hid (Mod (fun _ => False) wo w3 ∧ Sl w3 B1 m 1 gs ∧ PtsAt w3 gs ((cut stop L).map (·.1)) ∧ Sl w3 B2 m 1 (ints ((cut stop L).map (·.2))))) := by
        rw [hm, hsb, hL]
        refine (kwalk_told (some ⟨b, o, none⟩) c k xs stop wo HN.out.2 (by omega) (by omega) hP hNk hIl).mono ?_
        rintro _ w3 ⟨B1, e1, B2, e2, gs, rfl, hM, h1, h2, h3⟩
        exact ⟨B1, e1, B2, e2, gs, rfl, hM, h1, h2, h3⟩
      have HV := Lib.hid hV
      have hM2 : Hid (Mod (fun _ => False) w2 wo) := hmg
      clear hP hIl hL hLl hm hsb hV hall hNk
      have hcases : (0 < stop ∧ stop ≤ (k : Int) ∧ (m : Int) = stop ∧ sb = true) ∨ (¬ 0 < stop ∧ m = k ∧ sb = false) ∨ (0 < stop ∧ (k : Int) < stop ∧ m = k ∧ sb = false) := by
        by_cases hc : 0 < stop ∧ stop ≤ (k : Int)
        · exact .inl ⟨hc.1, hc.2, (hcl.2.1 hc).1, (hcl.2.1 hc).2⟩
        · have h := hcl.2.2 hc
          by_cases h3 : 0 < stop
          · exact .inr (.inr ⟨h3, by omega, h.1, h.2⟩)
          · exact .inr (.inl ⟨h3, h.1, h.2⟩)
      have hmk : m ≤ k := hcl.1
      clear hcl
      rcases hcases with ⟨g1, g2, g3, rfl⟩ | ⟨g1, g3, rfl⟩ | ⟨g1, g2, g3, rfl⟩
      · subst g3
        have g1n : 0 < m := by omega
        go_wp2_with (go_at_call 16; refine HV.out.mono ?_; rintro _ w3 ⟨B1, e1, B2, e2, gs, rfl, H3⟩)
        go_loopw [76] (fun i w' => ∃ r : Nat, r ≤ m ∧ i = .int .i64 r ∧ Hid (Mod (fun _ => False) w3 w')) (fun i _ => m - (intOf i).toNat)
        case atStart => exact ⟨0, Nat.zero_le _, rfl, Mod.refl _ _⟩
        case round =>
          obtain ⟨r, hr, rfl, HM⟩ := hrel
          by_cases hlt : r < m
          · have hmW : Mod (fun _ => False) w wr := (HO.out.2.2.2.2.trans hM2.out).trans (H3.out.1.trans HM.out)
            have hNW := HN.out.1.mod hmW
            obtain ⟨j, q, cA, cX, A, X, D, ys, p1, o1, p2, o2, p3, o3, p4, o4, hj, f1, f2, f3, f4, d1, d2, d3, d4, d5, s1, s2, hq, x, hx, hys⟩ : Row2 xs k b o wr A1 A2 B1 B2 r := by
              have h1 := HO.out.1
              have h2 := HO.out.2.1
              rw [HO.out.2.2.1] at h1
              rw [HO.out.2.2.2.1] at h2
              have hp := H3.out.2.2.1
              have g2 := H3.out.2.2.2
              rw [HP.out.2.2.2.1] at hp g2
              have hm := HP.out.2.2.2.2.1
              rw [HP.out.2.2.2.1] at hm
              exact row2 rfl HP.out.2.2.1 HN.out.2 h1 h2 hm H3.out.2.1 hp g2 (hM2.out.trans H3.out.1) HM.out (fun i x hx => by
                exact (HX.out i x hx).mod hmW) hNW.2.2 hlt
            have HS : Hid (Sl wr A q 1 (flts ys) ∧ Sl wr X q 1 (flts ys) ∧ (∀ y ∈ ys, Num y) ∧ Mod (fun _ => False) w wr) := ⟨s1, s2, by rw [← hys]; exact HP.out.2.1 x hx, hmW⟩
            clear s1 s2 hys hx hmW hNW
            have i1 : (r : Int) < m := by omega
            have i2 : (r : Int) < k := by omega
            have i3 : (0 : Int) ≤ r := by omega
            have i4 : (0 : Int) ≤ j := by omega
            have i5 : (j : Int) < k := by omega
            subst f1 f2 f3 f4
            go_wp2_with fail
            go_quiet ((go_at_call 12; exact same_q A X q cA cX ys _ _ HS.out.1 HS.out.2.1 hq HS.out.2.2.1))
            go_wp2_with fail
            go_roundw
            case rel => exact ⟨r + 1, by omega, by go_num, HM.out.trans ⟨rfl, rfl, rfl, Nat.le_refl _, fun _ _ _ => rfl⟩⟩
            case measure => simp [intOf]; omega
          · obtain rfl : r = m := by omega
            go_wp2_with fail
            go_ret
            exact ⟨rfl, (HO.out.2.2.2.2.trans hM2.out).trans (H3.out.1.trans HM.out)⟩
      · obtain rfl : k = m := g3.symm
        go_wp2_with (go_at_call 16; refine HV.out.mono ?_; rintro _ w3 ⟨B1, e1, B2, e2, gs, rfl, H3⟩)
        go_loopw [76] (fun i w' => ∃ r : Nat, r ≤ k ∧ i = .int .i64 r ∧ Hid (Mod (fun _ => False) w3 w')) (fun i _ => k - (intOf i).toNat)
        case atStart => exact ⟨0, Nat.zero_le _, rfl, Mod.refl _ _⟩
        case round =>
          obtain ⟨r, hr, rfl, HM⟩ := hrel
          by_cases hlt : r < k
          · have hmW : Mod (fun _ => False) w wr := (HO.out.2.2.2.2.trans hM2.out).trans (H3.out.1.trans HM.out)
            have hNW := HN.out.1.mod hmW
            obtain ⟨j, q, cA, cX, A, X, D, ys, p1, o1, p2, o2, p3, o3, p4, o4, hj, f1, f2, f3, f4, d1, d2, d3, d4, d5, s1, s2, hq, x, hx, hys⟩ : Row2 xs k b o wr A1 A2 B1 B2 r := by
              have h1 := HO.out.1
              have h2 := HO.out.2.1
              rw [HO.out.2.2.1] at h1
              rw [HO.out.2.2.2.1] at h2
              have hp := H3.out.2.2.1
              have g2 := H3.out.2.2.2
              rw [HP.out.2.2.2.1] at hp g2
              have hm := HP.out.2.2.2.2.1
              rw [HP.out.2.2.2.1] at hm
              exact row2 rfl HP.out.2.2.1 HN.out.2 h1 h2 hm H3.out.2.1 hp g2 (hM2.out.trans H3.out.1) HM.out (fun i x hx => by
                exact (HX.out i x hx).mod hmW) hNW.2.2 hlt
            have HS : Hid (Sl wr A q 1 (flts ys) ∧ Sl wr X q 1 (flts ys) ∧ (∀ y ∈ ys, Num y) ∧ Mod (fun _ => False) w wr) := ⟨s1, s2, by rw [← hys]; exact HP.out.2.1 x hx, hmW⟩
            clear s1 s2 hys hx hmW hNW
            have i1 : (r : Int) < k := by omega
            have i2 : (r : Int) < k := by omega
            have i3 : (0 : Int) ≤ r := by omega
            have i4 : (0 : Int) ≤ j := by omega
            have i5 : (j : Int) < k := by omega
            subst f1 f2 f3 f4
            go_wp2_with fail
            go_quiet ((go_at_call 12; exact same_q A X q cA cX ys _ _ HS.out.1 HS.out.2.1 hq HS.out.2.2.1))
            go_wp2_with fail
            go_roundw
            case rel => exact ⟨r + 1, by omega, by go_num, HM.out.trans ⟨rfl, rfl, rfl, Nat.le_refl _, fun _ _ _ => rfl⟩⟩
            case measure => simp [intOf]; omega
          · obtain rfl : r = k := by omega
            go_wp2_with fail
            go_ret
            exact ⟨rfl, (HO.out.2.2.2.2.trans hM2.out).trans (H3.out.1.trans HM.out)⟩
      · obtain rfl : k = m := g3.symm
        go_wp2_with (go_at_call 16; refine HV.out.mono ?_; rintro _ w3 ⟨B1, e1, B2, e2, gs, rfl, H3⟩)
        go_loopw [76] (fun i w' => ∃ r : Nat, r ≤ k ∧ i = .int .i64 r ∧ Hid (Mod (fun _ => False) w3 w')) (fun i _ => k - (intOf i).toNat)
        case atStart => exact ⟨0, Nat.zero_le _, rfl, Mod.refl _ _⟩
        case round =>
          obtain ⟨r, hr, rfl, HM⟩ := hrel
          by_cases hlt : r < k
          · have hmW : Mod (fun _ => False) w wr := (HO.out.2.2.2.2.trans hM2.out).trans (H3.out.1.trans HM.out)
            have hNW := HN.out.1.mod hmW
            obtain ⟨j, q, cA, cX, A, X, D, ys, p1, o1, p2, o2, p3, o3, p4, o4, hj, f1, f2, f3, f4, d1, d2, d3, d4, d5, s1, s2, hq, x, hx, hys⟩ : Row2 xs k b o wr A1 A2 B1 B2 r := by
              have h1 := HO.out.1
              have h2 := HO.out.2.1
              rw [HO.out.2.2.1] at h1
              rw [HO.out.2.2.2.1] at h2
              have hp := H3.out.2.2.1
              have g2 := H3.out.2.2.2
              rw [HP.out.2.2.2.1] at hp g2
              have hm := HP.out.2.2.2.2.1
              rw [HP.out.2.2.2.1] at hm
              exact row2 rfl HP.out.2.2.1 HN.out.2 h1 h2 hm H3.out.2.1 hp g2 (hM2.out.trans H3.out.1) HM.out (fun i x hx => by
                exact (HX.out i x hx).mod hmW) hNW.2.2 hlt
            have HS : Hid (Sl wr A q 1 (flts ys) ∧ Sl wr X q 1 (flts ys) ∧ (∀ y ∈ ys, Num y) ∧ Mod (fun _ => False) w wr) := ⟨s1, s2, by rw [← hys]; exact HP.out.2.1 x hx, hmW⟩
            clear s1 s2 hys hx hmW hNW
            have i1 : (r : Int) < k := by omega
            have i2 : (r : Int) < k := by omega
            have i3 : (0 : Int) ≤ r := by omega
            have i4 : (0 : Int) ≤ j := by omega
            have i5 : (j : Int) < k := by omega
            subst f1 f2 f3 f4
            go_wp2_with fail
            go_quiet ((go_at_call 12; exact same_q A X q cA cX ys _ _ HS.out.1 HS.out.2.1 hq HS.out.2.2.1))
            go_wp2_with fail
            go_roundw
            case rel => exact ⟨r + 1, by omega, by go_num, HM.out.trans ⟨rfl, rfl, rfl, Nat.le_refl _, fun _ _ _ => rfl⟩⟩
            case measure => simp [intOf]; omega
          · obtain rfl : r = k := by omega
            go_wp2_with fail
            go_ret
            exact ⟨rfl, (HO.out.2.2.2.2.trans hM2.out).trans (H3.out.1.trans HM.out)⟩
end Go.Proofs.Ytncpdjlladlalaa
