/- The walk of FnTvWalk: it answers true, and what came in is as it was. Conditions: none on the numbers. -/
import Derived.Test.YtncpdjlladlalaaTvRow
import Derived.Deep.RegionLaw
import Derived.Deep.QuietTactic
import Derived.Deep.RegionHeld3
import Derived.Deep.DrawnRows
import Derived.Deep.DeepCutAuto
namespace Go.Proofs.Ytncpdjlladlalaa
open Go.RowKit Lox
set_option linter.unusedVariables false
attribute [local go_sem] run_store_flt run_store_fn undef
attribute [local go_sem ↓] Go.wp_at_zero Go.wp_at_succ

theorem sl_blk {w : World} {g : Nat} {T : TypeId} {v : Value} (h : Blk w g T [v]) : Sl w (some ⟨g, 0, none⟩) 1 1 [v] :=
  ⟨rfl, fun _ => ⟨g, 0, rfl, fun j u hu => by rw [Nat.zero_add]; exact h.at hu⟩⟩

/-- The law answers true, and nothing that was there has turned. -/
def Yes (w : World) (e : Ending) (w' : World) : Prop := e = .returned (.bool true) ∧ Mod (fun _ => False) w w'

set_option maxRecDepth 100000 in
set_option maxHeartbeats 8000000 in
theorem fnTvWalk_at (T : Option Addr) (c n : Nat) (xs : List VN) (stop : Int) (w : World) (hn : n = xs.length) (hN : Nodes w T xs) :
    Calls Try.prog 3 #[.slice T n c, .int .i64 stop] w (Yes w) := by
  have hnl : n ≤ 9223372036854775807 := by rw [hn]; exact hN.1
  have HN := Lib.hid (And.intro hN hn)
  clear hN hn
  go_enter Try.func3, Try.ntmps3
  by_cases hbig : 2147483647 < n
  · go_wp2_with (go_at_call 8; refine (fits10_no T c n w hbig).mono ?_; rintro _ w1 ⟨rfl, rfl⟩)
    go_ret
    exact ⟨rfl, Mod.refl _ _⟩
  · by_cases h0 : n = 0
    · subst h0
      go_wp2_with (first | (go_at_call 8; refine (show Calls Try.prog 8 #[.slice T 0 c] w (Told w) from HN.out.2 ▸ fits10_any T c xs w HN.out.1).mono ?_; rintro _ w1 ⟨⟨b1, rfl⟩, hm1⟩) | (go_at_call 9; refine (vwalk_empty T c _).mono ?_; rintro _ w2 ⟨rfl, hm2⟩))
      · go_ret
        exact ⟨rfl, hm1⟩
      · go_ret
        exact ⟨rfl, hm1.trans hm2⟩
    · by_cases hsm : n ≤ 100
      · obtain ⟨b, o, e, hc⟩ := HN.out.1.2.1 (by rw [← HN.out.2]; omega)
        have hk2 : 0 < xs.length := by rw [← HN.out.2]; omega
        obtain ⟨x0, ex⟩ : ∃ x0, x0 = xs[0] := ⟨_, rfl⟩
        have hx := hc 0 _ (List.getElem?_eq_getElem hk2)
        rw [← ex] at hx
        have hOk := HN.out.1.2.2 x0 (by rw [ex]; exact List.getElem_mem hk2)
        have hex : xs[0]? = some x0 := by rw [ex]; exact List.getElem?_eq_getElem hk2
        obtain ⟨d, hd⟩ : ∃ d, d = x0.p.n := ⟨_, rfl⟩
        have c0 := hx.1
        simp only [Nat.zero_mul, Nat.add_zero] at c0
        have c0' : w.cell? ⟨b, o, none⟩ = some (.slice x0.p.A d x0.p.c) := by rw [c0, hd]; rfl
        have hdl : d ≤ 9223372036854775807 := by rw [hd]; exact hOk.2
        have HX : Hid (xs[0]? = some x0 ∧ d = x0.p.n ∧ (∀ (i : Nat) (x : VN), xs[i]? = some x → x.At w b (o + i * 4))) := ⟨hex, hd, hc⟩
        clear hx hOk c0 hc ex hex hd
        subst e
        have hbl := lt_of_cell c0'
        have en0 : ((n : Int) == 0) = false := by
          have : (n : Int) ≠ 0 := by omega
          simpa using this
        have e100 : decide ((100 : Int) < (n : Int)) = false := decide_eq_false (by omega)
        rcases Nat.lt_or_ge 4 d with hd4 | hd4
        · have e4 : decide ((4 : Int) < (d : Int)) = true := decide_eq_true (by omega)
          go_wp2_with (first | (go_at_call 8; refine (show Calls Try.prog 8 #[.slice (some ⟨b, o, none⟩) n c] w (Told w) from HN.out.2 ▸ fits10_any _ c xs w HN.out.1).mono ?_; rintro _ w1 ⟨⟨b1, rfl⟩, hm1⟩) | (go_at_call 9; refine (vwalk_at (some ⟨b, o, none⟩) c n xs _ HN.out.2 (by omega) (by omega) (HN.out.1.mod hm1)).mono ?_; rintro _ w2 ⟨A1, c1, m, A2, c2, os, ds, is, rfl, hm2, hs1, hs2, his⟩; have c2' : w2.cell? ⟨b, o, none⟩ = some (.slice x0.p.A d x0.p.c) := ((hm1.trans hm2).cell hbl (fun h => h)).trans c0'))
          all_goals
            go_ret
            first | exact ⟨rfl, hm1⟩ | exact ⟨rfl, hm1.trans hm2⟩
        have e4 : decide ((4 : Int) < (d : Int)) = false := decide_eq_false (by omega)
        go_wp2_with (first | (go_at_call 8; refine (show Calls Try.prog 8 #[.slice (some ⟨b, o, none⟩) n c] w (Told w) from HN.out.2 ▸ fits10_any _ c xs w HN.out.1).mono ?_; rintro _ w1 ⟨⟨b1, rfl⟩, hm1⟩) | (go_at_call 9; refine (vwalk_at (some ⟨b, o, none⟩) c n xs _ HN.out.2 (by omega) (by omega) (HN.out.1.mod hm1)).mono ?_; rintro _ w2 ⟨A1, c1, m, A2, c2, os, ds, is, rfl, hm2, hs1, hs2, his⟩; have c2' : w2.cell? ⟨b, o, none⟩ = some (.slice x0.p.A d x0.p.c) := ((hm1.trans hm2).cell hbl (fun h => h)).trans c0'))
        all_goals first
          | (go_ret; first | exact ⟨rfl, hm1⟩ | exact ⟨rfl, hm1.trans hm2⟩)
          | skip
        have hm := hm1.trans hm2
        have hisT : is = true := by first | rfl | assumption
        obtain ⟨emn, hos, hds⟩ := his hisT (by omega)
        have emn' := emn.symm
        subst emn'
        have HO : Hid (Sl w2 A1 n 1 (ints os) ∧ Sl w2 A2 n 1 (ints ds) ∧ os = (ino (VC xs) (VF xs) n 0 0).map (·.1) ∧ ds = (ino (VC xs) (VF xs) n 0 0).map (·.2) ∧ Mod (fun _ => False) w w2) := ⟨hs1, hs2, hos, hds, hm⟩
        clear hm1 hm2 hs1 hs2 hos hds his
        go_loopw [47] (fun i w' => ∃ k : Nat, k ≤ n ∧ i = .int .i64 k ∧ Hid (Mod (fun _ => False) w2 w' ∧ ∀ x ∈ xs.take k, (x.p.n : Int) = d ∧ (∀ y ∈ x.p.xs, Num y) ∧ 0 < d)) (fun i _ => n - (intOf i).toNat)
        case atStart => exact ⟨0, Nat.zero_le _, rfl, Mod.refl _ _, by simp⟩
        case round =>
          obtain ⟨k, hk, rfl, HR⟩ := hrel
          by_cases hlt : k < n
          · have hkx : k < xs.length := by rw [← HN.out.2]; exact hlt
            obtain ⟨x, exk⟩ : ∃ x, x = xs[k] := ⟨_, rfl⟩
            have hxk : xs[k]? = some x := by rw [exk]; exact List.getElem?_eq_getElem hkx
            have hAt := HX.out.2.2 k x hxk
            have HTK : Hid (xs.take (k + 1) = xs.take k ++ [x]) := by show _ = _; rw [List.take_succ_eq_append_getElem hkx, exk]
            have hOk := HN.out.1.2.2 x (by rw [exk]; exact List.getElem_mem hkx)
            have hmk : Mod (fun _ => False) w wr := HO.out.2.2.2.2.trans HR.out.1
            have cc0 := (hmk.cell hbl (fun h => h)).trans c0'
            obtain ⟨⟨A, q, c', ys⟩, r, cl, fu⟩ := x
            obtain ⟨e0, e1, e2, e3⟩ := hAt
            have d0 : wr.cell? ⟨b, o + k * 4, none⟩ = some (.slice A q c') := (hmk.cell (lt_of_cell e0) (fun h => h)).trans e0
            have d1 := (hmk.cell (lt_of_cell e1) (fun h => h)).trans e1
            have d2 := (hmk.cell (lt_of_cell e2) (fun h => h)).trans e2
            have d3 := (hmk.cell (lt_of_cell e3) (fun h => h)).trans e3
            have HOK : Hid (Pt.Ok wr ⟨A, q, c', ys⟩) := ⟨hOk.1.mod hmk, hOk.2⟩
            clear exk hxk hkx hOk e0 e1 e2 e3 hmk
            have hbw := lt_of_cell cc0
            obtain ⟨bg, hbg⟩ : ∃ bg, bg = gridB ⟨A, q, c', ys⟩ (d : Int) 4652218415073722368 := ⟨_, rfl⟩
            obtain ⟨g1, hg1⟩ : ∃ g1 : Bool, (FloatKind.f64.format.order r 0 == some .gt || FloatKind.f64.format.order r 0 == some .eq) = g1 := ⟨_, rfl⟩
            obtain ⟨g2, hg2⟩ : ∃ g2 : Bool, (FloatKind.f64.format.order r 9094988921128908188 == some .lt || FloatKind.f64.format.order r 9094988921128908188 == some .eq) = g2 := ⟨_, rfl⟩
            have HBG := Lib.hid hbg
            clear hbg
            go_wp2_with fail
            cases bg with
            | false =>
              first | go_region_with (go_at_call 10; refine (grid_one (some ⟨wr.heap.size + 1, 0, none⟩) 1 ⟨A, q, c', ys⟩ (d : Int) 4652218415073722368 _ (Sl.drew (sl_blk (blk_new_at (by rw [World.size_alloc]) #[.slice A q c'] 27 rfl))) ⟨HOK.out.1.mod ((((Mod.refl _ _).alloc _).alloc _).drew), HOK.out.2⟩).mono ?_; rw [← HBG.out]; rintro _ _ ⟨rfl, rfl⟩) | fail
              all_goals
                go_wp2_with fail
                go_ret
                exact ⟨rfl, (HO.out.2.2.2.2.trans HR.out.1).trans ((((Mod.refl _ _).alloc _).alloc _).drew)⟩
            | true =>
              cases g1 with
              | false =>
                first | go_region_with (go_at_call 10; refine (grid_one (some ⟨wr.heap.size + 1, 0, none⟩) 1 ⟨A, q, c', ys⟩ (d : Int) 4652218415073722368 _ (Sl.drew (sl_blk (blk_new_at (by rw [World.size_alloc]) #[.slice A q c'] 27 rfl))) ⟨HOK.out.1.mod ((((Mod.refl _ _).alloc _).alloc _).drew), HOK.out.2⟩).mono ?_; rw [← HBG.out]; rintro _ _ ⟨rfl, rfl⟩) | fail
                all_goals
                  go_wp2_with fail
                  go_ret
                  exact ⟨rfl, (HO.out.2.2.2.2.trans HR.out.1).trans ((((Mod.refl _ _).alloc _).alloc _).drew)⟩
              | true =>
                cases g2 with
                | false =>
                  first | go_region_with (go_at_call 10; refine (grid_one (some ⟨wr.heap.size + 1, 0, none⟩) 1 ⟨A, q, c', ys⟩ (d : Int) 4652218415073722368 _ (Sl.drew (sl_blk (blk_new_at (by rw [World.size_alloc]) #[.slice A q c'] 27 rfl))) ⟨HOK.out.1.mod ((((Mod.refl _ _).alloc _).alloc _).drew), HOK.out.2⟩).mono ?_; rw [← HBG.out]; rintro _ _ ⟨rfl, rfl⟩) | fail
                  all_goals
                    go_wp2_with fail
                    go_ret
                    exact ⟨rfl, (HO.out.2.2.2.2.trans HR.out.1).trans ((((Mod.refl _ _).alloc _).alloc _).drew)⟩
                | true =>
                  first | go_region_with (go_at_call 10; refine (grid_one (some ⟨wr.heap.size + 1, 0, none⟩) 1 ⟨A, q, c', ys⟩ (d : Int) 4652218415073722368 _ (Sl.drew (sl_blk (blk_new_at (by rw [World.size_alloc]) #[.slice A q c'] 27 rfl))) ⟨HOK.out.1.mod ((((Mod.refl _ _).alloc _).alloc _).drew), HOK.out.2⟩).mono ?_; rw [← HBG.out]; rintro _ _ ⟨rfl, rfl⟩) | fail
                  all_goals
                    go_wp2_with fail
                    go_roundw
                    case rel =>
                      refine ⟨k + 1, by omega, by go_num, HR.out.1.trans ((((Mod.refl _ _).alloc _).alloc _).drew), ?_⟩
                      rw [HTK.out]
                      intro z hz
                      rcases List.mem_append.1 hz with h | h
                      · exact HR.out.2 z h
                      · rw [List.mem_singleton.1 h]
                        have := gridB_yes HBG.out.symm
                        exact ⟨this.1, this.2.1, by have := this.2.2; omega⟩
                    case measure => simp [intOf]; omega
          · -- loop 1's end
            obtain rfl : k = n := by omega
            obtain ⟨wo, rfl⟩ : ∃ wo : World, wo = wr := ⟨_, rfl⟩
            have hall : ∀ x ∈ xs, (x.p.n : Int) = d ∧ (∀ y ∈ x.p.xs, Num y) ∧ 0 < d := by
              have := HR.out.2
              rw [List.take_of_length_le (by rw [← HN.out.2]; exact Nat.le_refl _)] at this
              exact this
            have hd4 : d ≤ 4 := by omega
            have hP : ∀ x ∈ xs, 0 < x.p.n ∧ x.p.n ≤ 4 := fun x hx => by
              obtain ⟨a1, _, a3⟩ := hall x hx
              omega
            have hIl : (ino (VC xs) (VF xs) k 0 0).length = k := by
              have h1 := HO.out.1.1
              rw [HO.out.2.2.1] at h1
              simpa [ints] using h1
            obtain ⟨L, hL⟩ : ∃ L, L = (ino (VC xs) (VF xs) k 0 0).map fun p => (PX xs p.1, p.2) := ⟨_, rfl⟩
            have hLl : L.length = k := by rw [hL, List.length_map]; exact hIl
            obtain ⟨m, hm⟩ : ∃ m, m = (cut stop L).length := ⟨_, rfl⟩
            obtain ⟨sb, hsb⟩ : ∃ sb, sb = stopped stop L := ⟨_, rfl⟩
            have hcl := cut_len stop L
            rw [← hm, ← hsb, hLl] at hcl
            have HP : Hid ((∀ x ∈ xs, 0 < x.p.n ∧ x.p.n ≤ 4) ∧ (∀ x ∈ xs, ∀ y ∈ x.p.xs, Num y) ∧ (ino (VC xs) (VF xs) k 0 0).length = k ∧ L = (ino (VC xs) (VF xs) k 0 0).map (fun p => (PX xs p.1, p.2)) ∧ m = (cut stop L).length ∧ sb = stopped stop L) := ⟨hP, fun x hx => (hall x hx).2.1, hIl, hL, hm, hsb⟩
            have hNk : Nodes wo (some ⟨b, o, none⟩) xs := HN.out.1.mod (HO.out.2.2.2.2.trans HR.out.1)
            have hV : Calls Try.prog 11 #[.slice (some ⟨b, o, none⟩) k c, .int .i64 stop] wo (fun e w3 => ∃ B1 e1 B2 e2 gs, e = .returned (.tuple #[.slice B1 m e1, .slice B2 m e2, .bool sb, .bool true]) ∧ Hid (Mod (fun _ => False) wo w3 ∧ Sl w3 B1 m 1 gs ∧ PtsAt w3 gs ((cut stop L).map (·.1)) ∧ Sl w3 B2 m 1 (ints ((cut stop L).map (·.2))))) := by
              rw [hm, hsb, hL]
              refine (vwalk_told (some ⟨b, o, none⟩) c k xs stop wo HN.out.2 (by omega) (by omega) hP hNk hIl).mono ?_
              rintro _ w3 ⟨B1, e1, B2, e2, gs, rfl, hM, h1, h2, h3⟩
              exact ⟨B1, e1, B2, e2, gs, rfl, hM, h1, h2, h3⟩
            have HV := Lib.hid hV
            have hM2 : Hid (Mod (fun _ => False) w2 wo) := HR.out.1
            clear hP hIl hL hLl hm hsb hV hall hNk
            have hcases : (0 < stop ∧ stop ≤ (k : Int) ∧ (m : Int) = stop ∧ sb = true) ∨ (¬ 0 < stop ∧ m = k ∧ sb = false) ∨ (0 < stop ∧ (k : Int) < stop ∧ m = k ∧ sb = false) := by
              by_cases hc : 0 < stop ∧ stop ≤ (k : Int)
              · exact .inl ⟨hc.1, hc.2, (hcl.2.1 hc).1, (hcl.2.1 hc).2⟩
              · have h := hcl.2.2 hc
                by_cases h3 : 0 < stop
                · exact .inr (.inr ⟨h3, by omega, h.1, h.2⟩)
                · exact .inr (.inl ⟨h3, h.1, h.2⟩)
            have hmk : m ≤ k := hcl.1
            clear hcl
            rcases hcases with ⟨g1, g2, g3, rfl⟩ | ⟨g1, g3, rfl⟩ | ⟨g1, g2, g3, rfl⟩
            · subst g3
              go_wp2_with (go_at_call 11; refine HV.out.mono ?_; rintro _ w3 ⟨B1, e1, B2, e2, gs, rfl, H3⟩)
              go_loopw [119] (fun i w' => ∃ r : Nat, r ≤ m ∧ i = .int .i64 r ∧ Hid (Mod (fun _ => False) w3 w')) (fun i _ => m - (intOf i).toNat)
              case atStart => exact ⟨0, Nat.zero_le _, rfl, Mod.refl _ _⟩
              case round =>
                obtain ⟨r, hr, rfl, HM⟩ := hrel
                by_cases hlt : r < m
                · have hmW : Mod (fun _ => False) w wr := (HO.out.2.2.2.2.trans hM2.out).trans (H3.out.1.trans HM.out)
                  have hNW := HN.out.1.mod hmW
                  obtain ⟨j, q, cA, cX, A, X, D, ys, p1, o1, p2, o2, p3, o3, p4, o4, hj, f1, f2, f3, f4, d1, d2, d3, d4, d5, s1, s2, hq, x, hx, hys⟩ : Row2 xs k b o wr A1 A2 B1 B2 r := by
                    have h1 := HO.out.1
                    have h2 := HO.out.2.1
                    rw [HO.out.2.2.1] at h1
                    rw [HO.out.2.2.2.1] at h2
                    have hp := H3.out.2.2.1
                    have g2 := H3.out.2.2.2
                    rw [HP.out.2.2.2.1] at hp g2
                    have hm := HP.out.2.2.2.2.1
                    rw [HP.out.2.2.2.1] at hm
                    exact row2 rfl HP.out.2.2.1 HN.out.2 h1 h2 hm H3.out.2.1 hp g2 (hM2.out.trans H3.out.1) HM.out (fun i x hx => by
                      obtain ⟨y1, y2, y3, y4⟩ := HX.out.2.2 i x hx
                      exact ⟨(hmW.cell (lt_of_cell y1) (fun h => h)).trans y1, (hmW.cell (lt_of_cell y2) (fun h => h)).trans y2, (hmW.cell (lt_of_cell y3) (fun h => h)).trans y3, (hmW.cell (lt_of_cell y4) (fun h => h)).trans y4⟩) hNW.2.2 hlt
                  have HS : Hid (Sl wr A q 1 (flts ys) ∧ Sl wr X q 1 (flts ys) ∧ (∀ y ∈ ys, Num y) ∧ Mod (fun _ => False) w wr) := ⟨s1, s2, by rw [← hys]; exact HP.out.2.1 x hx, hmW⟩
                  clear s1 s2 hys hx hmW hNW
                  have i1 : (r : Int) < m := by omega
                  have i2 : (r : Int) < k := by omega
                  have i3 : (0 : Int) ≤ r := by omega
                  have i4 : (0 : Int) ≤ j := by omega
                  have i5 : (j : Int) < k := by omega
                  subst f1 f2 f3 f4
                  go_wp2_with fail
                  go_quiet ((go_at_call 12; exact same_q A X q cA cX ys _ _ HS.out.1 HS.out.2.1 hq HS.out.2.2.1))
                  go_wp2_with fail
                  go_roundw
                  case rel => exact ⟨r + 1, by omega, by go_num, HM.out.trans ⟨rfl, rfl, rfl, Nat.le_refl _, fun _ _ _ => rfl⟩⟩
                  case measure => simp [intOf]; omega
                · obtain rfl : r = m := by omega
                  go_wp2_with fail
                  go_ret
                  exact ⟨rfl, (HO.out.2.2.2.2.trans hM2.out).trans (H3.out.1.trans HM.out)⟩
            · obtain rfl : k = m := g3.symm
              go_wp2_with (go_at_call 11; refine HV.out.mono ?_; rintro _ w3 ⟨B1, e1, B2, e2, gs, rfl, H3⟩)
              go_loopw [119] (fun i w' => ∃ r : Nat, r ≤ k ∧ i = .int .i64 r ∧ Hid (Mod (fun _ => False) w3 w')) (fun i _ => k - (intOf i).toNat)
              case atStart => exact ⟨0, Nat.zero_le _, rfl, Mod.refl _ _⟩
              case round =>
                obtain ⟨r, hr, rfl, HM⟩ := hrel
                by_cases hlt : r < k
                · have hmW : Mod (fun _ => False) w wr := (HO.out.2.2.2.2.trans hM2.out).trans (H3.out.1.trans HM.out)
                  have hNW := HN.out.1.mod hmW
                  obtain ⟨j, q, cA, cX, A, X, D, ys, p1, o1, p2, o2, p3, o3, p4, o4, hj, f1, f2, f3, f4, d1, d2, d3, d4, d5, s1, s2, hq, x, hx, hys⟩ : Row2 xs k b o wr A1 A2 B1 B2 r := by
                    have h1 := HO.out.1
                    have h2 := HO.out.2.1
                    rw [HO.out.2.2.1] at h1
                    rw [HO.out.2.2.2.1] at h2
                    have hp := H3.out.2.2.1
                    have g2 := H3.out.2.2.2
                    rw [HP.out.2.2.2.1] at hp g2
                    have hm := HP.out.2.2.2.2.1
                    rw [HP.out.2.2.2.1] at hm
                    exact row2 rfl HP.out.2.2.1 HN.out.2 h1 h2 hm H3.out.2.1 hp g2 (hM2.out.trans H3.out.1) HM.out (fun i x hx => by
                      obtain ⟨y1, y2, y3, y4⟩ := HX.out.2.2 i x hx
                      exact ⟨(hmW.cell (lt_of_cell y1) (fun h => h)).trans y1, (hmW.cell (lt_of_cell y2) (fun h => h)).trans y2, (hmW.cell (lt_of_cell y3) (fun h => h)).trans y3, (hmW.cell (lt_of_cell y4) (fun h => h)).trans y4⟩) hNW.2.2 hlt
                  have HS : Hid (Sl wr A q 1 (flts ys) ∧ Sl wr X q 1 (flts ys) ∧ (∀ y ∈ ys, Num y) ∧ Mod (fun _ => False) w wr) := ⟨s1, s2, by rw [← hys]; exact HP.out.2.1 x hx, hmW⟩
                  clear s1 s2 hys hx hmW hNW
                  have i1 : (r : Int) < k := by omega
                  have i2 : (r : Int) < k := by omega
                  have i3 : (0 : Int) ≤ r := by omega
                  have i4 : (0 : Int) ≤ j := by omega
                  have i5 : (j : Int) < k := by omega
                  subst f1 f2 f3 f4
                  go_wp2_with fail
                  go_quiet ((go_at_call 12; exact same_q A X q cA cX ys _ _ HS.out.1 HS.out.2.1 hq HS.out.2.2.1))
                  go_wp2_with fail
                  go_roundw
                  case rel => exact ⟨r + 1, by omega, by go_num, HM.out.trans ⟨rfl, rfl, rfl, Nat.le_refl _, fun _ _ _ => rfl⟩⟩
                  case measure => simp [intOf]; omega
                · obtain rfl : r = k := by omega
                  go_wp2_with fail
                  go_ret
                  exact ⟨rfl, (HO.out.2.2.2.2.trans hM2.out).trans (H3.out.1.trans HM.out)⟩
            · obtain rfl : k = m := g3.symm
              go_wp2_with (go_at_call 11; refine HV.out.mono ?_; rintro _ w3 ⟨B1, e1, B2, e2, gs, rfl, H3⟩)
              go_loopw [119] (fun i w' => ∃ r : Nat, r ≤ k ∧ i = .int .i64 r ∧ Hid (Mod (fun _ => False) w3 w')) (fun i _ => k - (intOf i).toNat)
              case atStart => exact ⟨0, Nat.zero_le _, rfl, Mod.refl _ _⟩
              case round =>
                obtain ⟨r, hr, rfl, HM⟩ := hrel
                by_cases hlt : r < k
                · have hmW : Mod (fun _ => False) w wr := (HO.out.2.2.2.2.trans hM2.out).trans (H3.out.1.trans HM.out)
                  have hNW := HN.out.1.mod hmW
                  obtain ⟨j, q, cA, cX, A, X, D, ys, p1, o1, p2, o2, p3, o3, p4, o4, hj, f1, f2, f3, f4, d1, d2, d3, d4, d5, s1, s2, hq, x, hx, hys⟩ : Row2 xs k b o wr A1 A2 B1 B2 r := by
                    have h1 := HO.out.1
                    have h2 := HO.out.2.1
                    rw [HO.out.2.2.1] at h1
                    rw [HO.out.2.2.2.1] at h2
                    have hp := H3.out.2.2.1
                    have g2 := H3.out.2.2.2
                    rw [HP.out.2.2.2.1] at hp g2
                    have hm := HP.out.2.2.2.2.1
                    rw [HP.out.2.2.2.1] at hm
                    exact row2 rfl HP.out.2.2.1 HN.out.2 h1 h2 hm H3.out.2.1 hp g2 (hM2.out.trans H3.out.1) HM.out (fun i x hx => by
                      obtain ⟨y1, y2, y3, y4⟩ := HX.out.2.2 i x hx
                      exact ⟨(hmW.cell (lt_of_cell y1) (fun h => h)).trans y1, (hmW.cell (lt_of_cell y2) (fun h => h)).trans y2, (hmW.cell (lt_of_cell y3) (fun h => h)).trans y3, (hmW.cell (lt_of_cell y4) (fun h => h)).trans y4⟩) hNW.2.2 hlt
                  have HS : Hid (Sl wr A q 1 (flts ys) ∧ Sl wr X q 1 (flts ys) ∧ (∀ y ∈ ys, Num y) ∧ Mod (fun _ => False) w wr) := ⟨s1, s2, by rw [← hys]; exact HP.out.2.1 x hx, hmW⟩
                  clear s1 s2 hys hx hmW hNW
                  have i1 : (r : Int) < k := by omega
                  have i2 : (r : Int) < k := by omega
                  have i3 : (0 : Int) ≤ r := by omega
                  have i4 : (0 : Int) ≤ j := by omega
                  have i5 : (j : Int) < k := by omega
                  subst f1 f2 f3 f4
                  go_wp2_with fail
                  go_quiet ((go_at_call 12; exact same_q A X q cA cX ys _ _ HS.out.1 HS.out.2.1 hq HS.out.2.2.1))
                  go_wp2_with fail
                  go_roundw
                  case rel => exact ⟨r + 1, by omega, by go_num, HM.out.trans ⟨rfl, rfl, rfl, Nat.le_refl _, fun _ _ _ => rfl⟩⟩
                  case measure => simp [intOf]; omega
                · obtain rfl : r = k := by omega
                  go_wp2_with fail
                  go_ret
                  exact ⟨rfl, (HO.out.2.2.2.2.trans hM2.out).trans (H3.out.1.trans HM.out)⟩
      · have hn2 : n ≤ 2147483647 := by omega
        go_wp2_with (first | (go_at_call 8; refine (show Calls Try.prog 8 #[.slice T n c] w (Told w) from HN.out.2 ▸ fits10_any T c xs w HN.out.1).mono ?_; rintro _ w1 ⟨⟨b1, rfl⟩, hm1⟩) | (go_at_call 9; refine (vwalk_at T c n xs _ HN.out.2 (by omega) hn2 (HN.out.1.mod hm1)).mono ?_; rintro _ w2 ⟨A1, c1, m, A2, c2, os, ds, is, rfl, hm2, hs1, hs2, his⟩))
        all_goals
          go_ret
          first | exact ⟨rfl, hm1⟩ | exact ⟨rfl, hm1.trans hm2⟩
end Go.Proofs.Ytncpdjlladlalaa
