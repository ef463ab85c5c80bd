/- The walk of the library's down over a keeper's heap. Conditions: as it says. -/
import Derived.Test.YtncpdjlladlalaaKvUp
namespace Go.Proofs.Ytncpdjlladlalaa.V
open Go.RowKit Lox
set_option linter.unusedVariables false
attribute [local go_sem] run_store_flt run_store_fn

theorem downF_stop {els : List El} {i n : Nat} (h : n ≤ 2 * i + 1) : downF els i n = (els, i) := by rw [downF_eq, if_pos h]
theorem downF_halt {els : List El} {i n K : Nat} (h : ¬ n ≤ 2 * i + 1) (hK : kid els i n = K) (hl : lessE (at' els K) (at' els i) = false) : downF els i n = (els, i) := by
  rw [downF_eq, if_neg h, hK, if_neg (by rw [hl]; exact Bool.false_ne_true)]
theorem downF_step {els : List El} {i n K : Nat} (h : ¬ n ≤ 2 * i + 1) (hK : kid els i n = K) (hl : lessE (at' els K) (at' els i) = true) : downF els i n = downF (swapE els i K) K n := by
  rw [downF_eq, if_neg h, hK, if_pos hl]
theorem kid_one {els : List El} {i n : Nat} (h : ¬ 2 * i + 2 < n) : kid els i n = 2 * i + 1 := if_neg (fun hh => h hh.1)
theorem kid_left {els : List El} {i n : Nat} (h : lessE (at' els (2 * i + 2)) (at' els (2 * i + 1)) = false) : kid els i n = 2 * i + 1 := if_neg (fun hh => by rw [h] at hh; exact Bool.false_ne_true hh.2)
theorem kid_right {els : List El} {i n : Nat} (h0 : 2 * i + 2 < n) (h : lessE (at' els (2 * i + 2)) (at' els (2 * i + 1)) = true) : kid els i n = 2 * i + 2 := if_pos ⟨h0, h⟩

/-- What down tells: whether it has moved the element. -/
def DownTold (kb hb len cap i0 n : Nat) (els : List El) (w0 : World) (e : Ending) (w' : World) : Prop :=
  e = .returned (.bool (decide (i0 < (downF els i0 n).2))) ∧ KKS w' kb hb len cap (downF els i0 n).1 ∧ Mod (fun k => k = hb) w0 w'

theorem down_done {kb hb len cap i0 n i : Nat} {els els' : List El} {w0 w' : World} (hE : downF els i0 n = (els', i)) (h : KKS w' kb hb len cap els') (hm : Mod (fun k => k = hb) w0 w') :
    DownTold kb hb len cap i0 n els w0 (.returned (.bool (decide (i0 < i)))) w' := by
  unfold DownTold
  rw [hE]
  exact ⟨rfl, h, hm⟩

set_option maxRecDepth 100000 in
set_option maxHeartbeats 8000000 in
theorem kdown_at (kb hb len cap : Nat) (hl : len ≤ 1099511627776) (w0 : World) (i0 n : Nat) (I N : Int) (els : List El) (hI : I = i0) (hN : N = n) (h : KKS w0 kb hb len cap els) (hi0 : i0 ≤ len) (hn : n ≤ len) :
    Calls Try.prog 71 #[.iface 73 (.pointer (some ⟨kb, 0, none⟩)), .int .i64 I, .int .i64 N] w0 (DownTold kb hb len cap i0 n els w0) := by
  subst hI hN
  have HK := Lib.hid h
  clear h
  have m1 := kmeth_less
  have m2 := kmeth_swap
  go_enter Try.func71, Try.ntmps71
  go_wp2_with fail
  go_loopw [7, 8, 9, 10] (fun i' _ _ _ w' => ∃ (i : Nat) (els' : List El), i ≤ len ∧ i' = .int .i64 i ∧ Hid (KKS w' kb hb len cap els' ∧ Mod (fun k => k = hb) w0 w' ∧ downF els' i n = downF els i0 n)) (fun i' _ _ _ _ => n + 1 - (intOf i').toNat)
  case atStart => exact ⟨i0, els, hi0, rfl, HK.out, Mod.refl _ _, rfl⟩
  case round =>
    obtain ⟨i, els', hi, rfl, HR⟩ := hrel
    have b0 : (0 : Int) ≤ i := by omega
    have b1 : (i : Int) ≤ 1099511627776 := by omega
    by_cases hs : n ≤ 2 * i + 1
    · have t1 : decide ((n : Int) ≤ 2 * (i : Int) + 1) = true := decide_eq_true (by omega)
      have HE : Hid (downF els i0 n = (els', i)) := by show _ = _; rw [← HR.out.2.2]; exact downF_stop hs
      clear hs
      go_wp2_with fail
      go_ret
      exact down_done HE.out HR.out.1 HR.out.2.1
    · have t1 : decide ((n : Int) ≤ 2 * (i : Int) + 1) = false := decide_eq_false (by omega)
      have t2 : decide (2 * (i : Int) + 1 < 0) = false := decide_eq_false (by omega)
      have c1 : 2 * i + 1 < len := by omega
      have c0 : i < len := by omega
      have HS := Lib.hid hs
      clear hs
      obtain ⟨K, hK⟩ : ∃ K, kid els' i n = K := ⟨_, rfl⟩
      have hkb := kid_bd (l := els') HS.out
      rw [hK] at hkb
      have hKl : K < len := by omega
      have hKi : i < K := hkb.1
      have hKn : K < n := hkb.2.1
      clear hkb
      obtain ⟨g2, hg2⟩ : ∃ g2, g2 = lessE (at' els' K) (at' els' i) := ⟨_, rfl⟩
      have HG2 := Lib.hid hg2
      clear hg2
      by_cases hj : 2 * i + 2 < n
      · have t3 : decide (2 * (i : Int) + 1 + 1 < (n : Int)) = true := decide_eq_true (by omega)
        have c2 : 2 * i + 2 < len := by omega
        obtain ⟨g1, hg1⟩ : ∃ g1, g1 = lessE (at' els' (2 * i + 2)) (at' els' (2 * i + 1)) := ⟨_, rfl⟩
        have HG1 := Lib.hid hg1
        clear hg1
        cases g1
        · have hk1 : K = 2 * i + 1 := by rw [← hK]; exact kid_left HG1.out.symm
          have HK1 := Lib.hid (And.intro hK hk1)
          clear hK hk1 hj
          have tok1 : True := trivial
          cases g2
          · go_wp2_with (go_at_call 97; first
              | (have _t := tok1; clear _t tok1; refine (kless_at _ kb hb len cap els' (2 * i + 2) (2 * i + 1) (2 * (i : Int) + 1 + 1) (2 * (i : Int) + 1) (by omega) (by omega) HR.out.1 c2 c1 hl).mono ?_; rw [← HG1.out]; rintro _ _ ⟨rfl, n1, rfl⟩)
              | (refine (kless_at _ kb hb len cap els' K i (2 * (i : Int) + 1) (i : Int) (by have := HK1.out.2; omega) rfl (HR.out.1.drewN n1) hKl c0 hl).mono ?_; rw [← HG2.out]; rintro _ _ ⟨rfl, n2, rfl⟩))
            go_ret
            exact down_done (HR.out.2.2.symm.trans (downF_halt HS.out HK1.out.1 HG2.out.symm)) (HR.out.1.drewN _) (HR.out.2.1.trans (mod_drewN _ _ _))
          · go_wp2_with (first
              | (go_at_call 97; first
                | (have _t := tok1; clear _t tok1; refine (kless_at _ kb hb len cap els' (2 * i + 2) (2 * i + 1) (2 * (i : Int) + 1 + 1) (2 * (i : Int) + 1) (by omega) (by omega) HR.out.1 c2 c1 hl).mono ?_; rw [← HG1.out]; rintro _ _ ⟨rfl, n1, rfl⟩)
                | (refine (kless_at _ kb hb len cap els' K i (2 * (i : Int) + 1) (i : Int) (by have := HK1.out.2; omega) rfl (HR.out.1.drewN n1) hKl c0 hl).mono ?_; rw [← HG2.out]; rintro _ _ ⟨rfl, n2, rfl⟩))
              | (go_at_call 100; refine (kswap_at _ kb hb len cap els' i K (i : Int) (2 * (i : Int) + 1) rfl (by have := HK1.out.2; omega) (HR.out.1.drewN _) c0 hKl (by omega) hl).mono ?_; rintro _ w2 ⟨rfl, hk2, hm2⟩; have HK2 := Lib.hid (And.intro hk2 hm2); clear hk2 hm2))
            go_roundw
            case rel => exact ⟨K, swapE els' i K, by omega, by rw [HK1.out.2]; go_num, HK2.out.1, (HR.out.2.1.trans (mod_drewN _ _ _)).trans HK2.out.2, by rw [← HR.out.2.2, downF_step HS.out HK1.out.1 HG2.out.symm]⟩
            case measure => simp [intOf]; omega
        · have hk1 : K = 2 * i + 2 := by rw [← hK]; exact kid_right hj HG1.out.symm
          have HK1 := Lib.hid (And.intro hK hk1)
          clear hK hk1 hj
          have tok1 : True := trivial
          cases g2
          · go_wp2_with (go_at_call 97; first
              | (have _t := tok1; clear _t tok1; refine (kless_at _ kb hb len cap els' (2 * i + 2) (2 * i + 1) (2 * (i : Int) + 1 + 1) (2 * (i : Int) + 1) (by omega) (by omega) HR.out.1 c2 c1 hl).mono ?_; rw [← HG1.out]; rintro _ _ ⟨rfl, n1, rfl⟩)
              | (refine (kless_at _ kb hb len cap els' K i (2 * (i : Int) + 1 + 1) (i : Int) (by have := HK1.out.2; omega) rfl (HR.out.1.drewN n1) hKl c0 hl).mono ?_; rw [← HG2.out]; rintro _ _ ⟨rfl, n2, rfl⟩))
            go_ret
            exact down_done (HR.out.2.2.symm.trans (downF_halt HS.out HK1.out.1 HG2.out.symm)) (HR.out.1.drewN _) (HR.out.2.1.trans (mod_drewN _ _ _))
          · go_wp2_with (first
              | (go_at_call 97; first
                | (have _t := tok1; clear _t tok1; refine (kless_at _ kb hb len cap els' (2 * i + 2) (2 * i + 1) (2 * (i : Int) + 1 + 1) (2 * (i : Int) + 1) (by omega) (by omega) HR.out.1 c2 c1 hl).mono ?_; rw [← HG1.out]; rintro _ _ ⟨rfl, n1, rfl⟩)
                | (refine (kless_at _ kb hb len cap els' K i (2 * (i : Int) + 1 + 1) (i : Int) (by have := HK1.out.2; omega) rfl (HR.out.1.drewN n1) hKl c0 hl).mono ?_; rw [← HG2.out]; rintro _ _ ⟨rfl, n2, rfl⟩))
              | (go_at_call 100; refine (kswap_at _ kb hb len cap els' i K (i : Int) (2 * (i : Int) + 1 + 1) rfl (by have := HK1.out.2; omega) (HR.out.1.drewN _) c0 hKl (by omega) hl).mono ?_; rintro _ w2 ⟨rfl, hk2, hm2⟩; have HK2 := Lib.hid (And.intro hk2 hm2); clear hk2 hm2))
            go_roundw
            case rel => exact ⟨K, swapE els' i K, by omega, by rw [HK1.out.2]; go_num, HK2.out.1, (HR.out.2.1.trans (mod_drewN _ _ _)).trans HK2.out.2, by rw [← HR.out.2.2, downF_step HS.out HK1.out.1 HG2.out.symm]⟩
            case measure => simp [intOf]; omega
      · have t3 : decide (2 * (i : Int) + 1 + 1 < (n : Int)) = false := decide_eq_false (by omega)
        have hk1 : K = 2 * i + 1 := by rw [← hK]; exact kid_one hj
        have HK1 := Lib.hid (And.intro hK hk1)
        clear hK hk1 hj
        cases g2
        · go_wp2_with (go_at_call 97; refine (kless_at _ kb hb len cap els' K i (2 * (i : Int) + 1) (i : Int) (by have := HK1.out.2; omega) rfl HR.out.1 hKl c0 hl).mono ?_; rw [← HG2.out]; rintro _ _ ⟨rfl, n2, rfl⟩)
          go_ret
          exact down_done (HR.out.2.2.symm.trans (downF_halt HS.out HK1.out.1 HG2.out.symm)) (HR.out.1.drewN _) (HR.out.2.1.trans (mod_drewN _ _ _))
        · go_wp2_with (first
            | (go_at_call 97; refine (kless_at _ kb hb len cap els' K i (2 * (i : Int) + 1) (i : Int) (by have := HK1.out.2; omega) rfl HR.out.1 hKl c0 hl).mono ?_; rw [← HG2.out]; rintro _ _ ⟨rfl, n2, rfl⟩)
            | (go_at_call 100; refine (kswap_at _ kb hb len cap els' i K (i : Int) (2 * (i : Int) + 1) rfl (by have := HK1.out.2; omega) (HR.out.1.drewN _) c0 hKl (by omega) hl).mono ?_; rintro _ w2 ⟨rfl, hk2, hm2⟩; have HK2 := Lib.hid (And.intro hk2 hm2); clear hk2 hm2))
          go_roundw
          case rel => exact ⟨K, swapE els' i K, by omega, by rw [HK1.out.2]; go_num, HK2.out.1, (HR.out.2.1.trans (mod_drewN _ _ _)).trans HK2.out.2, by rw [← HR.out.2.2, downF_step HS.out HK1.out.1 HG2.out.symm]⟩
          case measure => simp [intOf]; omega
end Go.Proofs.Ytncpdjlladlalaa.V
