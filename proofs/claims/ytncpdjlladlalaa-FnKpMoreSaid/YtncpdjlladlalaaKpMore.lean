/- The walk of the law FnKpMore. Conditions: none on the arguments but that they are rows of numbers. -/
import Derived.Test.YtncpdjlladlalaaKpLaw
import Derived.Test.YtncpdjlladlalaaKvKept
import Derived.Test.YtncpdjlladlalaaKdKept
import Derived.Test.YtncpdjlladlalaaKpMoreP
import Derived.Deep.RegionHeld3
namespace Go.Proofs.Ytncpdjlladlalaa
open Go.RowKit Lox
set_option linter.unusedVariables false
attribute [local go_sem] run_store_flt run_store_fn

theorem kept_kV {rows : List (List Nat)} {m : Nat} (hl : rows.length = m) {w w' : World} {e : Ending} (h : V.KeptTold rows w e w') :
    ∃ A c gs, e = .returned (.tuple #[.slice A m c, .bool true]) ∧ Hid (Mod (fun _ => False) w w' ∧ Sl w' A m 1 gs ∧
      ∀ (i : Nat) (v : Value) (xs : List Nat), gs[i]? = some v → rows[i]? = some xs → ∃ A n c, v = .slice A n c ∧ n ≤ 1099511627776 ∧ Sl w' A n 1 (flts xs)) := by
  obtain ⟨A, c, gs, h1, h2, h3, h4, h5⟩ := h
  rw [hl] at h1 h3
  exact ⟨A, c, gs, h1, h2, h3, h5⟩

theorem real_ex {xs : List Nat} {w w' : World} {e : Ending} (h : RealTold xs w e w') :
    ∃ ys A q c, e = .returned (.slice A q c) ∧ q ≤ c ∧ Hid (Sl w' A q 1 (flts ys) ∧ ys.Perm (reals xs) ∧ Inc ys) ∧ Mod (fun _ => False) w w' := by
  obtain ⟨ys, A, q, c, h1, h2, h3, h4, h5, h6⟩ := h
  exact ⟨ys, A, q, c, h1, h2, ⟨h3, h5, h6⟩, h4⟩

theorem shown_ok {l : List El} {ds : List Nat} (h : ∀ d, some d ∈ l → d ∈ ds) (hd : ∀ d ∈ ds, Dist d) : ∀ x ∈ l.map shown, Lox.Fin x ∧ fk NEG1 ≤ fk x := fun x hx => by
  obtain ⟨e, he, rfl⟩ := List.mem_map.1 hx
  cases e with
  | none => exact ⟨fin_neg1, Int.le_refl _⟩
  | some d => have := hd d (h d he); exact ⟨this.1, Int.le_of_lt this.2.1⟩

theorem in_k {m S : Nat} {ds : List Nat} {w w' : World} {e : Ending} (h0 : 0 < m) (hm : m ≤ 60) (hl : ds.length = m) (hd : ∀ d ∈ ds, Dist d) (h : D.InTold m ((D.runD S ds).map shown) w e w') :
    ∃ b o X q cx c, e = .returned (.tuple #[.slice (some ⟨b, o, none⟩) m c, .bool true]) ∧ w'.cell? ⟨b, o + (m - 1), none⟩ = some (.slice X q cx) ∧ q ≤ 2147483647 ∧
      Hid (Mod (fun _ => False) w w' ∧ Sl w' X q 1 (flts ((D.runD S ds).map shown)) ∧ ∀ x ∈ (D.runD S ds).map shown, Lox.Fin x ∧ fk NEG1 ≤ fk x) := by
  obtain ⟨A, c, gs, h1, h2, h3, h4⟩ := h
  obtain ⟨B, v, hv, X, q, cx, e1, hq, hs, -⟩ := h4 h0
  obtain ⟨b, o, v', eA, ev, cv⟩ := h3.at1 (show m - 1 < m by omega)
  rw [ev] at hv
  cases hv
  subst e1 eA
  have hk := D.runD_kept S ds
  refine ⟨b, o, X, q, cx, c, h1, cv, ?_, h2, hs, shown_ok (fun d hdk => ?_) hd⟩
  · have hq2 : (D.runD S ds).length = q := by have := hs.1; simpa [flts] using this
    have := hk.length.2
    omega
  · have := hk.perm.mem_iff.1 hdk
    simp at this
    exact (List.mem_filter.1 this).1

theorem last_row {run : List Nat → List El} {n k : Nat} {ds : List Nat} {w' : World} {A : Option Addr} {gs : List Value} (hm : ds.length = k) (hrun : Kept n (run ds) ds) (hd : ∀ d ∈ ds, Dist d) (hsl : Sl w' A (k) 1 gs)
    (hg : ∀ (i : Nat) (v : Value) (xs : List Nat), gs[i]? = some v → (rowsOf run ds (k))[i]? = some xs → ∃ A n c, v = .slice A n c ∧ n ≤ 1099511627776 ∧ Sl w' A n 1 (flts xs)) (hkp : 0 < k) (hK : k ≤ 60) (hn0 : 0 < n) (hn : n ≤ 101) :
    ∃ b o X q cx, A = some ⟨b, o, none⟩ ∧ w'.cell? ⟨b, o + (k - 1), none⟩ = some (.slice X q cx) ∧ q ≤ 2147483647 ∧ Hid (Sl w' X q 1 (flts ((run ds).map shown)) ∧ ∀ x ∈ (run ds).map shown, Lox.Fin x ∧ fk NEG1 ≤ fk x) := by
  obtain ⟨b, o, v, eA, ev, cv⟩ := hsl.at1 (show k - 1 < k by omega)
  have hr := rowsOf_get (run := run) (ds := ds) (show k - 1 < k by omega)
  rw [List.take_of_length_le (by omega)] at hr
  obtain ⟨X, q, cx, rfl, hq, hs⟩ := hg (k - 1) v _ ev hr
  refine ⟨b, o, X, q, cx, eA, cv, ?_, hs, shown_ok (fun d h => kept_mem hrun h) hd⟩
  have hl : (run ds).length = q := by have := hs.1; simpa [flts] using this
  rcases hrun.length with h | h <;> omega

set_option maxRecDepth 100000 in
set_option maxHeartbeats 8000000 in
theorem fnKpMore_at (n : Int) (T : Option Addr) (k c : Nat) (xs : List Nat) (w : World) (h : Sl w T k 1 (flts xs)) (hkc : k ≤ c) (hc : c ≤ 9223372036854775807) :
    Calls Try.prog 7 #[.int .i64 n, .slice T k c] w fun e w' => e = .returned (.bool true) ∧ Mod (fun _ => False) w w' := by
  have hxl : xs.length = k := by have := h.1; simpa [flts] using this
  have HN := Lib.hid (And.intro h hxl)
  clear h hxl
  go_enter Try.func7, Try.ntmps7
  by_cases hbig : 2147483647 < k
  · go_wp2_with fail
    go_ret
    exact ⟨rfl, Mod.refl _ _⟩
  · by_cases h1 : n < 1
    · go_wp2_with fail
      go_ret
      exact ⟨rfl, Mod.refl _ _⟩
    · by_cases h2 : 100 < n
      · go_wp2_with fail
        go_ret
        exact ⟨rfl, Mod.refl _ _⟩
      · obtain ⟨N, rfl⟩ : ∃ N : Nat, n = N := ⟨n.toNat, by omega⟩
        by_cases h0 : k = 0
        · have t0 : ((k : Int) == 0) = true := by simp [h0]
          go_wp2_with fail
          go_ret
          exact ⟨rfl, Mod.refl _ _⟩
        · have t0 : ((k : Int) == 0) = false := by
            have : (k : Int) ≠ 0 := by omega
            simpa using this
          go_wp2_with (first
            | (go_at_call 17; refine (asked_at T k c xs w HN.out.1 (by omega)).mono ?_; rintro _ w1 ⟨⟨b1, rfl, hb1⟩, rfl⟩; have HB := Lib.hid hb1; clear hb1; cases b1)
            | (go_at_call 20; refine (kkept_at T c k N xs w HN.out.1 (by omega) (by omega) (by omega) (fun d hd => ((HB.out (by trivial)).1 d hd).1)).mono ?_; intro e2 w2 hk2; obtain ⟨A2, c2, gs, rfl, H2⟩ := kept_k hk2; clear hk2)
            | (go_at_call 18; refine (V.kkept_at T c k (N + 1) xs w2 (HN.out.1.mod H2.out.1) (by omega) (by omega) (by omega) (fun d hd => ((HB.out (by trivial)).1 d hd).1)).mono ?_; intro e3 w3 hk3; obtain ⟨A3, c3, gs3, rfl, H3⟩ := kept_kV (rowsOf_length _ _ _) hk3; clear hk3))
          · go_ret
            exact ⟨rfl, Mod.refl _ _⟩
          · clear t0
            have hkp : 0 < k := by omega
            clear h0
            have HD : Hid ((∀ d ∈ xs, Dist d) ∧ (∀ d ∈ xs, fk NEG1 < fk d) ∧ xs.length = k) := ⟨(HB.out (by trivial)).1, fun d hd => ((HB.out (by trivial)).1 d hd).2.1, HN.out.2⟩
            have hK60 : k ≤ 60 := (HB.out (by trivial)).2
            have hk1 : Kept N (runK N xs) xs := runK_kept (by omega) xs
            have hk2 : Kept (N + 1) (runV (N + 1) xs) xs := runV_kept (by omega) xs
            obtain ⟨b1, o1, X1, q1, cx1, e1, cv1, hq1, HX1⟩ := last_row HD.out.2.2 hk1 HD.out.1 H2.out.2.1 H2.out.2.2 hkp hK60 (by omega) (by omega)
            obtain ⟨b2, o2, X2, q2, cx2, e2, cv2, hq2, HX2⟩ := last_row HD.out.2.2 hk2 HD.out.1 H3.out.2.1 H3.out.2.2 hkp hK60 (by omega) (by omega)
            have cw1 : w3.drew.cell? ⟨b1, o1 + (k - 1), none⟩ = some (.slice X1 q1 cx1) := (H3.out.1.cell (lt_of_cell cv1) (fun h => h)).trans cv1
            have cv2 : w3.drew.cell? ⟨b2, o2 + (k - 1), none⟩ = some (.slice X2 q2 cx2) := cv2
            have hl1 : b1 < w3.heap.size := lt_of_cell cw1
            have hl2 : b2 < w3.heap.size := lt_of_cell cv2
            have HR : Hid (Sl w3 X1 q1 1 (flts ((runK N xs).map shown)) ∧ Sl w3 X2 q2 1 (flts ((runV (N + 1) xs).map shown))) := ⟨HX1.out.1.mod H3.out.1, HX2.out.1⟩
            have HKK := Lib.hid (And.intro hk1 hk2)
            clear cv1 hk1 hk2
            subst e1 e2
            have hwr : IntKind.i64.wrap ((k : Int) - 1) = (k : Int) - 1 := by rw [IntKind.wrap_i64]; omega
            have i0 : (1 : Int) ≤ k := by omega
            have i1 : (0 : Int) ≤ (k : Int) - 1 := by omega
            have i2 : (k : Int) - 1 < k := by omega
            go_region_held3 (fun w' => w'.cell? ⟨b1, o1 + (k - 1), none⟩ = some (.slice X1 q1 cx1) ∧ w'.cell? ⟨b2, o2 + (k - 1), none⟩ = some (.slice X2 q2 cx2)) (first | with_reducible exact ⟨cw1, cv2⟩ | with_reducible exact ⟨cA1, cA2⟩ | with_reducible exact ⟨cB1, cB2⟩ | exact ⟨cw1, cv2⟩)
              (first
                | (go_at_call 21; (with_reducible refine (real_at _ X1 q1 cx1 _ (HR.out.1.mod hmB) hq1 HX1.out.2).mono ?_); intro eA wA hA; obtain ⟨ys, Y1, p1, cy1, rfl, hcA, HA, hmA0⟩ := real_ex hA; clear hA; have hmA : Mod (fun _ => False) w3 wA := hmB.trans hmA0; have cA1 : wA.cell? ⟨b1, o1 + (k - 1), none⟩ = some (.slice X1 q1 cx1) := (hmA.cell (p := ⟨b1, o1 + (k - 1), none⟩) hl1 (fun h => h)).trans cw1; have cA2 : wA.cell? ⟨b2, o2 + (k - 1), none⟩ = some (.slice X2 q2 cx2) := (hmA.cell (p := ⟨b2, o2 + (k - 1), none⟩) hl2 (fun h => h)).trans cv2)
                | (go_at_call 21; (with_reducible refine (real_at _ X2 q2 cx2 _ (HR.out.2.mod hmA) hq2 HX2.out.2).mono ?_); intro eB wB hB; obtain ⟨zs, Y2, p2, cy2, rfl, hcB, HB2, hmB0⟩ := real_ex hB; clear hB; have hmB : Mod (fun _ => False) w3 wB := hmA.trans hmB0; have cB1 : wB.cell? ⟨b1, o1 + (k - 1), none⟩ = some (.slice X1 q1 cx1) := (hmB.cell (p := ⟨b1, o1 + (k - 1), none⟩) hl1 (fun h => h)).trans cw1; have cB2 : wB.cell? ⟨b2, o2 + (k - 1), none⟩ = some (.slice X2 q2 cx2) := (hmB.cell (p := ⟨b2, o2 + (k - 1), none⟩) hl2 (fun h => h)).trans cv2)
                | (go_at_call 21; (with_reducible refine (real_at _ X1 q1 cx1 _ HR.out.1.drew hq1 HX1.out.2).mono ?_); intro eA wA hA; obtain ⟨ys, Y1, p1, cy1, rfl, hcA, HA, hmA0⟩ := real_ex hA; clear hA; have hmA : Mod (fun _ => False) w3 wA := (Mod.refl (fun _ => False) w3).drew.trans hmA0; have cA1 : wA.cell? ⟨b1, o1 + (k - 1), none⟩ = some (.slice X1 q1 cx1) := (hmA.cell (p := ⟨b1, o1 + (k - 1), none⟩) hl1 (fun h => h)).trans cw1; have cA2 : wA.cell? ⟨b2, o2 + (k - 1), none⟩ = some (.slice X2 q2 cx2) := (hmA.cell (p := ⟨b2, o2 + (k - 1), none⟩) hl2 (fun h => h)).trans cv2)
                | (go_at_call 21; (with_reducible refine (real_at _ X2 q2 cx2 _ HR.out.2.drew hq2 HX2.out.2).mono ?_); intro eB wB hB; obtain ⟨zs, Y2, p2, cy2, rfl, hcB, HB2, hmB0⟩ := real_ex hB; clear hB; have hmB : Mod (fun _ => False) w3 wB := (Mod.refl (fun _ => False) w3).drew.trans hmB0; have cB1 : wB.cell? ⟨b1, o1 + (k - 1), none⟩ = some (.slice X1 q1 cx1) := (hmB.cell (p := ⟨b1, o1 + (k - 1), none⟩) hl1 (fun h => h)).trans cw1; have cB2 : wB.cell? ⟨b2, o2 + (k - 1), none⟩ = some (.slice X2 q2 cx2) := (hmB.cell (p := ⟨b2, o2 + (k - 1), none⟩) hl2 (fun h => h)).trans cv2))
            clear cw1 cv2
            have hy1 : ys.length = p1 := by have := HA.out.1.1; simpa [flts] using this
            have hy2 : zs.length = p2 := by have := HB2.out.1.1; simpa [flts] using this
            have HM1 := Lib.hid (more1 HKK.out.1 HKK.out.2 HD.out.2.1 (by rw [HD.out.2.2]; exact hkp) HA.out.2.1 HA.out.2.2 HB2.out.2.1 HB2.out.2.2)
            have hp2 : 0 < p2 := by have := HM1.out.2.1; omega
            have hp12 : p1 ≤ p2 := by have := HM1.out.1; omega
            have t2 : ((p2 : Int) == 0) = false := by
              have : (p2 : Int) ≠ 0 := by omega
              simpa using this
            obtain ⟨b4, o4, v4, e4, ev4, cv4⟩ := HB2.out.1.at1 (show p2 - 1 < p2 by omega)
            obtain ⟨S, hS⟩ : ∃ S, zs[p2 - 1]? = some S := ⟨zs[p2 - 1]'(by omega), List.getElem?_eq_getElem (by omega)⟩
            obtain rfl : v4 = .float .f64 S := by rw [flts_at hS] at ev4; cases ev4; rfl
            have hSd : Dist S := HD.out.1 S (HM1.out.2.2.2.2 S (List.mem_of_getElem? hS))
            have HS4 := Lib.hid (And.intro hS (And.intro hSd (And.intro hy1 hy2)))
            have hp2q : p2 ≤ q2 := by
              have e1 := HB2.out.2.1.length_eq
              have e2 := List.length_filter_le (fun x => decide (fk NEG1 < fk x)) ((runV (N + 1) xs).map shown)
              have e3 := HX2.out.1.1
              unfold flts at e3
              rw [List.length_map, Nat.mul_one] at e3
              unfold reals at e1
              omega
            have hwr2 : IntKind.i64.wrap ((p2 : Int) - 1) = (p2 : Int) - 1 := by rw [IntKind.wrap_i64]; omega
            have j0 : (1 : Int) ≤ p2 := by omega
            have j1 : (0 : Int) ≤ (p2 : Int) - 1 := by omega
            have j2 : (p2 : Int) - 1 < p2 := by omega
            subst e4
            clear ev4 hS hSd hy1 hy2
            have tokK : True := trivial
            go_wp2_with (first
              | (go_at_call 22; (refine (D.kin_at T c k S xs wB (HN.out.1.mod ((H2.out.1.trans H3.out.1).trans hmB)) (by omega) (fun d hd => (HD.out.1 d hd).1) HS4.out.2.1.1).mono ?_); intro e5 w5 hk5; obtain ⟨b5, o5, X5, q5, cx5, c5, rfl, cv5, hq5, H5⟩ := in_k hkp hK60 HD.out.2.2 HD.out.1 hk5; clear hk5)
              | (go_at_call 21; (refine (real_at w5 X5 q5 cx5 _ H5.out.2.1 hq5 H5.out.2.2).mono ?_); intro e6 wC hC; obtain ⟨us, Y3, p3, cy3, rfl, hcC, HC, hmC⟩ := real_ex hC; clear hC; have HM2 := Lib.hid (more2 HKK.out.2 (D.runD_kept S xs) HD.out.2.1 HB2.out.2.1 HB2.out.2.2 HC.out.2.1 HC.out.2.2 (by rw [HS4.out.2.2.2]; exact HS4.out.1)); have hy3 : us.length = p3 := (by have := HC.out.1.1; simpa [flts] using this); have hp23 : p2 ≤ p3 := (by have := HM2.out.1; have := HS4.out.2.2.2; omega); obtain ⟨b6, o6, e6, -⟩ := HC.out.1.2 (by omega); subst e6; have d1 : decide ((p1 : Int) ≤ p2) = true := decide_eq_true (by omega); have d2 : decide ((p2 : Int) ≤ p3) = true := decide_eq_true (by omega); have tok1 : True := trivial)
              | (go_at_call 12; have _t := tok1; clear _t tok1; (refine (same_fk Y1 (some ⟨b4, o4, none⟩) p1 cy1 cy2 ys (zs.take p1) wC (((HA.out.1.mod hmB0).mod H5.out.1).mod hmC) (sl_prefix ((HB2.out.1.mod H5.out.1).mod hmC) hp12) (by omega) (fun x hx => (HD.out.1 x (HM1.out.2.2.2.1 x hx)).1) (fun y hy => (HD.out.1 y (HM1.out.2.2.2.2 y (List.mem_of_mem_take hy))).1) (by have := HM1.out.2.2.1; rw [HS4.out.2.2.1] at this; exact this)).mono ?_); rintro _ _ ⟨rfl, rfl⟩)
              | (go_at_call 12; (refine (same_fk (some ⟨b4, o4, none⟩) (some ⟨b6, o6, none⟩) p2 cy2 cy3 zs (us.take p2) wC ((HB2.out.1.mod H5.out.1).mod hmC) (sl_prefix HC.out.1 hp23) (by omega) (fun x hx => (HD.out.1 x (HM1.out.2.2.2.2 x hx)).1) (fun y hy => (HD.out.1 y (HM2.out.2.2 y (List.mem_of_mem_take hy))).1) (by have := HM2.out.2.1; rw [HS4.out.2.2.2] at this; exact this)).mono ?_); rintro _ _ ⟨rfl, rfl⟩))
            go_ret
            exact ⟨rfl, (((H2.out.1.trans H3.out.1).trans hmB).trans H5.out.1).trans hmC⟩
end Go.Proofs.Ytncpdjlladlalaa
