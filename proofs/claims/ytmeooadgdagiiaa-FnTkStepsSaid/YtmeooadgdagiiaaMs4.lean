/- Steps of a proof, one behind another: sort.Sort over ANY receiver: the walk of sort.partialInsertionSort (printed by wip/gen_so3.py). sort.Sort over ANY receiver: the walk of sort.siftDown. sort.Sort over ANY receiver: the walk of sort.heapSort. sort.Sort over ANY receiver: the walk of sort.reverseRange. sort.Sort over ANY receiver: the walks of sort.order2, median, medianAdjacent. sort.Sort over ANY receiver: the walk of sort.choosePivot. Conditions: as each theorem says. -/
import Derived.Test.YtmeooadgdagiiaaMs3
import Derived.Sort.WalkA6
import Derived.Deep.LoopGhost
import Derived.Deep.DeepCutAuto
import Derived.Sort.LotD4
import Derived.Sort.AtCall

namespace Go.Proofs.Ytmeooadgdagiiaa
open Go.RowKit Lox Go.Sort
set_option linter.unusedVariables false
variable {α : Type} [Inhabited α] {T : TypeId} {rv vl vs : Value} {gl gs n H : Nat} {lt : α → α → Bool} {S : Nat → Prop} {St : World → Array α → Prop}

/-- 'Less' and 'Swap' at (j, j - 1). -/
theorem less_dn (h : Srt T rv vl vs gl gs lt n H S St) {w : World} (dk : Array α) (wr : World) (j : Nat) (v : Bool) (hA : AtS S St w dk wr) (h1 : 1 ≤ j) (hj : j < n) (hv : lt dk[j]! dk[j - 1]! = v) :
    Calls Try.prog gl #[vl, .int .i64 j, .int .i64 ((j : Int) - 1)] wr fun e w' => e = .returned (.bool v) ∧ Okd St w' ∧ Hid (AtS S St w dk w') := by
  have := less_at h dk wr j (j - 1) v hA hj (by omega) (by omega) hv
  rwa [show ((j - 1 : Nat) : Int) = (j : Int) - 1 by omega] at this

theorem swap_dn (h : Srt T rv vl vs gl gs lt n H S St) {w : World} (dk : Array α) (wr : World) (j : Nat) (hA : AtS S St w dk wr) (h1 : 1 ≤ j) (hj : j < n) :
    Calls Try.prog gs #[vs, .int .i64 j, .int .i64 ((j : Int) - 1)] wr fun e w' => e = .returned (.tuple #[]) ∧ Okd St w' ∧ Hid (AtS S St w (swp dk j (j - 1)) w') := by
  have := swap_at h dk wr j (j - 1) hA hj (by omega)
  rwa [show ((j - 1 : Nat) : Int) = (j : Int) - 1 by omega] at this

set_option maxHeartbeats 12800000 in
set_option maxRecDepth 1000000 in
theorem partial_at (h : Srt T rv vl vs gl gs lt n H S St) (a b : Nat) (d : Array α) (w : World) (hH : St w d) (hab : a < b) (hb : b ≤ n) :
    Calls Try.prog 93 #[.iface T rv, .int .i64 a, .int .i64 b] w fun e w' => e = .returned (.bool (Sort.partialInsertionSort lt d a b).2) ∧ AtS S St w (Sort.partialInsertionSort lt d a b).1 w' := by
  have mL := h.mL
  have mS := h.mS
  have eL := h.enterL
  have eS := h.enterS
  have hsz := h.most
  have LC := Lib.hid (less_dn h (w := w))
  have SC := Lib.hid (swap_dn h (w := w))
  have HS : Hid (AtS S St w d w) := ⟨hH, Mod.refl _ _⟩
  clear h hH
  go_enter Try.func93, Try.ntmps93
  go_wp2
  go_loopg [7, 8] 5 (fun g1 vi vs wr => ∃ (i s : Nat) (dk : Array α), vi = .int .i64 i ∧ vs = .int .i64 s ∧ s ≤ 5 ∧ 5 - s ≤ g1 ∧ a < i ∧ i ≤ b ∧ Hid (AtS S St w dk wr) ∧ Hid (partialIns lt a b (5 - s) i dk = partialIns lt a b 5 (a + 1) d))
  case atStart => exact ⟨a + 1, 0, d, by go_num, rfl, by omega, by omega, by omega, by omega, HS, rfl⟩
  case round =>
    obtain ⟨i, s, dk, rfl, rfl, hs5, hg1, hai, hib, HA, HO⟩ := hrel
    by_cases hs : s < 5
    · have hsz5 : (s : Int) < 5 := by omega
      go_wp2
      go_loopg [7] (b - i) (fun g2 vi wr2 => ∃ kx : Nat, vi = .int .i64 kx ∧ i ≤ kx ∧ kx ≤ b ∧ b - kx ≤ g2 ∧ Hid (AtS S St w dk wr2) ∧ Hid (scanSorted lt dk b kx = scanSorted lt dk b i))
      case atStart => exact ⟨i, rfl, Nat.le_refl _, hib, Nat.le_refl _, HA, rfl⟩
      case round =>
        obtain ⟨kx, rfl, hik, hkb, hg2, HB, HSc⟩ := hrel
        have r3 : Okd St wr := ⟨_, HB.out.1⟩
        by_cases hkb' : kx < b
        · have hkz : (kx : Int) < (b : Int) := by omega
          cases hlv : lt dk[kx]! dk[kx - 1]! with
          | false =>
            go_wp2_with (go_at_fn gl; refine (LC.out dk _ kx false HB.out (by omega) (by omega) hlv).mono ?_; rintro e w' ⟨rfl, r1, HC⟩)
            go_roundg (b - (kx + 1))
            case measure => omega
            case rel => exact ⟨kx + 1, by go_num, by omega, by omega, Nat.le_refl _, HC, (show Hid _ from by rw [← HSc.out, scanSorted_go lt dk b kx hkb' hlv]; exact rfl)⟩
          | true =>
            have HK : Hid (scanSorted lt dk b i = kx) := by show _ = _; rw [← HSc.out, scanSorted_stop lt dk b kx (Or.inr hlv)]
            have hkne : ((kx : Int) == (b : Int)) = false := beq_eq_false_iff_ne.2 (by omega)
            by_cases h50 : b - a < 50
            · have h50z : (b : Int) - (a : Int) < 50 := by omega
              go_wp2_with (go_at_fn gl; refine (LC.out dk _ kx true HB.out (by omega) (by omega) hlv).mono ?_; rintro e w' ⟨rfl, r1, HC⟩)
              have hv : Sort.partialInsertionSort lt d a b = (dk, false) := by unfold Sort.partialInsertionSort; rw [← HO.out, pi_short lt a b s i dk hs (by rw [HK.out]; omega) h50]
              rw [hv]
              go_ret
              exact ⟨rfl, HC.out⟩
            · have h50z : ¬ ((b : Int) - (a : Int) < 50) := by omega
              by_cases hka : kx - a ≥ 2
              · have hkaz : (2 : Int) ≤ (kx : Int) - (a : Int) := by omega
                go_wp2_with (first | (go_at_fn gl; refine (LC.out dk _ kx true HB.out (by omega) (by omega) hlv).mono ?_; rintro e w' ⟨rfl, r1, HC⟩) | (go_at_fn gs; refine (SC.out dk _ kx HC.out (by omega) (by omega)).mono ?_; rintro e w' ⟨rfl, r2, HE⟩))
                go_loopg [9] (kx - 1) (fun g3 vj wr3 => ∃ (j : Nat) (dj : Array α), vj = .int .i64 j ∧ j ≤ kx - 1 ∧ j ≤ g3 ∧ Hid (AtS S St w dj wr3) ∧ Hid (shiftDown lt j dj = shiftDown lt (kx - 1) (swp dk kx (kx - 1))))
                case atStart => exact ⟨kx - 1, (swp dk kx (kx - 1)), by congr 1; omega, Nat.le_refl _, Nat.le_refl _, HE, rfl⟩
                case round =>
                  obtain ⟨j, dj, rfl, hjk, hg3, HF, HDe⟩ := hrel
                  have r6 : Okd St wr := ⟨_, HF.out.1⟩
                  by_cases hj1 : 1 ≤ j
                  · have hj1z : (1 : Int) ≤ (j : Int) := by omega
                    cases hlv2 : lt dj[j]! dj[j - 1]! with
                    | true =>
                      go_wp2_with (first | (go_at_fn gl; refine (LC.out dj _ j true HF.out (by omega) (by omega) hlv2).mono ?_; rintro e w' ⟨rfl, r1, HG⟩) | (go_at_fn gs; refine (SC.out dj _ j HG.out (by omega) (by omega)).mono ?_; rintro e w' ⟨rfl, r2, HI⟩))
                      go_roundg (j - 1)
                      case measure => omega
                      case rel => exact ⟨j - 1, swp dj j (j - 1), by congr 1; omega, by omega, Nat.le_refl _, HI, (show Hid _ from by rw [← HDe.out, shiftDown_go lt j dj hj1 hlv2]; exact rfl)⟩
                    | false =>
                      have HDn : Hid (fixDown lt a kx (swp dk kx (kx - 1)) = dj) := by show _ = _; unfold fixDown; rw [if_pos hka, ← HDe.out, shiftDown_stop lt j dj (Or.inr hlv2)]
                      by_cases hbk : b - kx ≥ 2
                      · have hbkz : (2 : Int) ≤ (b : Int) - (kx : Int) := by omega
                        go_wp2_with (go_at_fn gl; refine (LC.out dj _ j false HF.out (by omega) (by omega) hlv2).mono ?_; rintro e w' ⟨rfl, r1, HG⟩)
                        go_loopg [10] (b - (kx + 1)) (fun g4 vj wr4 => ∃ (ju : Nat) (du : Array α), vj = .int .i64 ju ∧ kx + 1 ≤ ju ∧ ju ≤ b ∧ b - ju ≤ g4 ∧ Hid (AtS S St w du wr4) ∧ Hid (shiftUp lt b ju du = shiftUp lt b (kx + 1) dj))
                        case atStart => exact ⟨kx + 1, dj, by go_num, Nat.le_refl _, by omega, Nat.le_refl _, HG, rfl⟩
                        case round =>
                          obtain ⟨ju, du, rfl, hkj, hjb, hg4, HU, HUe⟩ := hrel
                          have r5 : Okd St wr := ⟨_, HU.out.1⟩
                          by_cases hjb' : ju < b
                          · have hjz : (ju : Int) < (b : Int) := by omega
                            cases hlv3 : lt du[ju]! du[ju - 1]! with
                            | true =>
                              go_wp2_with (first | (go_at_fn gl; refine (LC.out du _ ju true HU.out (by omega) (by omega) hlv3).mono ?_; rintro e w' ⟨rfl, r1, HV⟩) | (go_at_fn gs; refine (SC.out du _ ju HV.out (by omega) (by omega)).mono ?_; rintro e w' ⟨rfl, r2, HW⟩))
                              go_roundg (b - (ju + 1))
                              case measure => omega
                              case rel => exact ⟨ju + 1, swp du ju (ju - 1), by go_num, by omega, by omega, Nat.le_refl _, HW, (show Hid _ from by rw [← HUe.out, shiftUp_go lt b ju du hjb' hlv3]; exact rfl)⟩
                            | false =>
                              go_wp2_with (go_at_fn gl; refine (LC.out du _ ju false HU.out (by omega) (by omega) hlv3).mono ?_; rintro e w' ⟨rfl, r1, HV⟩)
                              go_roundg (5 - (s + 1))
                              case measure => omega
                              case rel => exact ⟨kx, s + 1, du, rfl, by go_num, by omega, Nat.le_refl _, by omega, by omega, HV, (show Hid _ from by rw [← HO.out, pi_go lt a b s i kx dk hs HK.out (by omega) h50, HDn.out, show fixUp lt b kx dj = du from by unfold fixUp; rw [if_pos hbk, ← HUe.out, shiftUp_stop lt b ju du (Or.inr hlv3)]]; exact rfl)⟩
                          · have hjz : ¬ (ju : Int) < (b : Int) := by omega
                            go_wp2
                            go_roundg (5 - (s + 1))
                            case measure => omega
                            case rel => exact ⟨kx, s + 1, du, rfl, by go_num, by omega, Nat.le_refl _, by omega, by omega, HU, (show Hid _ from by rw [← HO.out, pi_go lt a b s i kx dk hs HK.out (by omega) h50, HDn.out, show fixUp lt b kx dj = du from by unfold fixUp; rw [if_pos hbk, ← HUe.out, shiftUp_stop lt b ju du (Or.inl hjb')]]; exact rfl)⟩
                      · have hbkz : ¬ (2 : Int) ≤ (b : Int) - (kx : Int) := by omega
                        go_wp2_with (go_at_fn gl; refine (LC.out dj _ j false HF.out (by omega) (by omega) hlv2).mono ?_; rintro e w' ⟨rfl, r1, HG⟩)
                        go_roundg (5 - (s + 1))
                        case measure => omega
                        case rel => exact ⟨kx, s + 1, dj, rfl, by go_num, by omega, Nat.le_refl _, by omega, by omega, HG, (show Hid _ from by rw [← HO.out, pi_go lt a b s i kx dk hs HK.out (by omega) h50, HDn.out, show fixUp lt b kx dj = dj from by unfold fixUp; rw [if_neg hbk]]; exact rfl)⟩
                  · have hj1z : ¬ (1 : Int) ≤ (j : Int) := by omega
                    have HDn : Hid (fixDown lt a kx (swp dk kx (kx - 1)) = dj) := by show _ = _; unfold fixDown; rw [if_pos hka, ← HDe.out, shiftDown_stop lt j dj (Or.inl (by omega))]
                    by_cases hbk : b - kx ≥ 2
                    · have hbkz : (2 : Int) ≤ (b : Int) - (kx : Int) := by omega
                      go_wp2
                      go_loopg [10] (b - (kx + 1)) (fun g4 vj wr4 => ∃ (ju : Nat) (du : Array α), vj = .int .i64 ju ∧ kx + 1 ≤ ju ∧ ju ≤ b ∧ b - ju ≤ g4 ∧ Hid (AtS S St w du wr4) ∧ Hid (shiftUp lt b ju du = shiftUp lt b (kx + 1) dj))
                      case atStart => exact ⟨kx + 1, dj, by go_num, Nat.le_refl _, by omega, Nat.le_refl _, HF, rfl⟩
                      case round =>
                        obtain ⟨ju, du, rfl, hkj, hjb, hg4, HU, HUe⟩ := hrel
                        have r5 : Okd St wr := ⟨_, HU.out.1⟩
                        by_cases hjb' : ju < b
                        · have hjz : (ju : Int) < (b : Int) := by omega
                          cases hlv3 : lt du[ju]! du[ju - 1]! with
                          | true =>
                            go_wp2_with (first | (go_at_fn gl; refine (LC.out du _ ju true HU.out (by omega) (by omega) hlv3).mono ?_; rintro e w' ⟨rfl, r1, HV⟩) | (go_at_fn gs; refine (SC.out du _ ju HV.out (by omega) (by omega)).mono ?_; rintro e w' ⟨rfl, r2, HW⟩))
                            go_roundg (b - (ju + 1))
                            case measure => omega
                            case rel => exact ⟨ju + 1, swp du ju (ju - 1), by go_num, by omega, by omega, Nat.le_refl _, HW, (show Hid _ from by rw [← HUe.out, shiftUp_go lt b ju du hjb' hlv3]; exact rfl)⟩
                          | false =>
                            go_wp2_with (go_at_fn gl; refine (LC.out du _ ju false HU.out (by omega) (by omega) hlv3).mono ?_; rintro e w' ⟨rfl, r1, HV⟩)
                            go_roundg (5 - (s + 1))
                            case measure => omega
                            case rel => exact ⟨kx, s + 1, du, rfl, by go_num, by omega, Nat.le_refl _, by omega, by omega, HV, (show Hid _ from by rw [← HO.out, pi_go lt a b s i kx dk hs HK.out (by omega) h50, HDn.out, show fixUp lt b kx dj = du from by unfold fixUp; rw [if_pos hbk, ← HUe.out, shiftUp_stop lt b ju du (Or.inr hlv3)]]; exact rfl)⟩
                        · have hjz : ¬ (ju : Int) < (b : Int) := by omega
                          go_wp2
                          go_roundg (5 - (s + 1))
                          case measure => omega
                          case rel => exact ⟨kx, s + 1, du, rfl, by go_num, by omega, Nat.le_refl _, by omega, by omega, HU, (show Hid _ from by rw [← HO.out, pi_go lt a b s i kx dk hs HK.out (by omega) h50, HDn.out, show fixUp lt b kx dj = du from by unfold fixUp; rw [if_pos hbk, ← HUe.out, shiftUp_stop lt b ju du (Or.inl hjb')]]; exact rfl)⟩
                    · have hbkz : ¬ (2 : Int) ≤ (b : Int) - (kx : Int) := by omega
                      go_wp2
                      go_roundg (5 - (s + 1))
                      case measure => omega
                      case rel => exact ⟨kx, s + 1, dj, rfl, by go_num, by omega, Nat.le_refl _, by omega, by omega, HF, (show Hid _ from by rw [← HO.out, pi_go lt a b s i kx dk hs HK.out (by omega) h50, HDn.out, show fixUp lt b kx dj = dj from by unfold fixUp; rw [if_neg hbk]]; exact rfl)⟩
              · have hkaz : ¬ (2 : Int) ≤ (kx : Int) - (a : Int) := by omega
                have HDn : Hid (fixDown lt a kx (swp dk kx (kx - 1)) = (swp dk kx (kx - 1))) := by show _ = _; unfold fixDown; rw [if_neg hka]
                by_cases hbk : b - kx ≥ 2
                · have hbkz : (2 : Int) ≤ (b : Int) - (kx : Int) := by omega
                  go_wp2_with (first | (go_at_fn gl; refine (LC.out dk _ kx true HB.out (by omega) (by omega) hlv).mono ?_; rintro e w' ⟨rfl, r1, HC⟩) | (go_at_fn gs; refine (SC.out dk _ kx HC.out (by omega) (by omega)).mono ?_; rintro e w' ⟨rfl, r2, HE⟩))
                  go_loopg [10] (b - (kx + 1)) (fun g4 vj wr4 => ∃ (ju : Nat) (du : Array α), vj = .int .i64 ju ∧ kx + 1 ≤ ju ∧ ju ≤ b ∧ b - ju ≤ g4 ∧ Hid (AtS S St w du wr4) ∧ Hid (shiftUp lt b ju du = shiftUp lt b (kx + 1) (swp dk kx (kx - 1))))
                  case atStart => exact ⟨kx + 1, (swp dk kx (kx - 1)), by go_num, Nat.le_refl _, by omega, Nat.le_refl _, HE, rfl⟩
                  case round =>
                    obtain ⟨ju, du, rfl, hkj, hjb, hg4, HU, HUe⟩ := hrel
                    have r5 : Okd St wr := ⟨_, HU.out.1⟩
                    by_cases hjb' : ju < b
                    · have hjz : (ju : Int) < (b : Int) := by omega
                      cases hlv3 : lt du[ju]! du[ju - 1]! with
                      | true =>
                        go_wp2_with (first | (go_at_fn gl; refine (LC.out du _ ju true HU.out (by omega) (by omega) hlv3).mono ?_; rintro e w' ⟨rfl, r1, HV⟩) | (go_at_fn gs; refine (SC.out du _ ju HV.out (by omega) (by omega)).mono ?_; rintro e w' ⟨rfl, r2, HW⟩))
                        go_roundg (b - (ju + 1))
                        case measure => omega
                        case rel => exact ⟨ju + 1, swp du ju (ju - 1), by go_num, by omega, by omega, Nat.le_refl _, HW, (show Hid _ from by rw [← HUe.out, shiftUp_go lt b ju du hjb' hlv3]; exact rfl)⟩
                      | false =>
                        go_wp2_with (go_at_fn gl; refine (LC.out du _ ju false HU.out (by omega) (by omega) hlv3).mono ?_; rintro e w' ⟨rfl, r1, HV⟩)
                        go_roundg (5 - (s + 1))
                        case measure => omega
                        case rel => exact ⟨kx, s + 1, du, rfl, by go_num, by omega, Nat.le_refl _, by omega, by omega, HV, (show Hid _ from by rw [← HO.out, pi_go lt a b s i kx dk hs HK.out (by omega) h50, HDn.out, show fixUp lt b kx (swp dk kx (kx - 1)) = du from by unfold fixUp; rw [if_pos hbk, ← HUe.out, shiftUp_stop lt b ju du (Or.inr hlv3)]]; exact rfl)⟩
                    · have hjz : ¬ (ju : Int) < (b : Int) := by omega
                      go_wp2
                      go_roundg (5 - (s + 1))
                      case measure => omega
                      case rel => exact ⟨kx, s + 1, du, rfl, by go_num, by omega, Nat.le_refl _, by omega, by omega, HU, (show Hid _ from by rw [← HO.out, pi_go lt a b s i kx dk hs HK.out (by omega) h50, HDn.out, show fixUp lt b kx (swp dk kx (kx - 1)) = du from by unfold fixUp; rw [if_pos hbk, ← HUe.out, shiftUp_stop lt b ju du (Or.inl hjb')]]; exact rfl)⟩
                · have hbkz : ¬ (2 : Int) ≤ (b : Int) - (kx : Int) := by omega
                  exfalso; omega
        · obtain rfl : kx = b := by omega
          have hkz : ¬ (kx : Int) < (kx : Int) := by omega
          go_wp2
          have hv : Sort.partialInsertionSort lt d a kx = (dk, true) := by unfold Sort.partialInsertionSort; rw [← HO.out, pi_true lt a kx s i dk hs (by rw [← HSc.out, scanSorted_stop lt dk kx kx (Or.inl (by omega))])]
          rw [hv]
          go_ret
          exact ⟨rfl, HB.out⟩
    · obtain rfl : s = 5 := by omega
      go_wp2
      have hv : Sort.partialInsertionSort lt d a b = (dk, false) := by unfold Sort.partialInsertionSort; rw [← HO.out, pi_end]
      rw [hv]
      go_ret
      exact ⟨rfl, HA.out⟩
end Go.Proofs.Ytmeooadgdagiiaa

namespace Go.Proofs.Ytmeooadgdagiiaa
open Go.RowKit Lox Go.Sort
set_option linter.unusedVariables false
variable {α : Type} [Inhabited α] {T : TypeId} {rv vl vs : Value} {gl gs n H : Nat} {lt : α → α → Bool} {S : Nat → Prop} {St : World → Array α → Prop}

theorem sift_stop {hi F r : Nat} {d : Array α} (h : ¬ 2 * r + 1 < hi) : siftDown lt hi F r d = d := by rw [siftDown, dif_pos (by omega)]
theorem sift_two {hi F r : Nat} {d : Array α} {b : Bool} (h : 2 * r + 1 + 1 < hi) (h1 : lt d[F + (2 * r + 1)]! d[F + (2 * r + 1) + 1]! = true) (h2 : lt d[F + r]! d[F + (2 * r + 2)]! = b) : siftDown lt hi F r d = if b = true then siftDown lt hi F (2 * r + 2) (swp d (F + r) (F + (2 * r + 2))) else d := by
  rw [siftDown, dif_neg (by omega), if_pos (by simp [h, h1]), h2]
  cases b
  · simp
  · have h3 : 2 * r + 2 < hi := by omega
    simp [h3]
theorem sift_one {hi F r : Nat} {d : Array α} {b : Bool} (h : 2 * r + 1 < hi) (h1 : ¬ 2 * r + 1 + 1 < hi ∨ lt d[F + (2 * r + 1)]! d[F + (2 * r + 1) + 1]! = false) (h2 : lt d[F + r]! d[F + (2 * r + 1)]! = b) : siftDown lt hi F r d = if b = true then siftDown lt hi F (2 * r + 1) (swp d (F + r) (F + (2 * r + 1))) else d := by
  rw [siftDown, dif_neg (by omega), if_neg (by rcases h1 with h1 | h1 <;> simp [h1]), h2]
  cases b <;> simp

set_option maxHeartbeats 4000000 in
set_option maxRecDepth 100000 in
theorem sift_at (h : Srt T rv vl vs gl gs lt n H S St) (lo hi F : Nat) (d : Array α) (w : World) (hH : St w d) (hlo : lo ≤ n) (hb : hi + F ≤ n) :
    Calls Try.prog 100 #[.iface T rv, .int .i64 lo, .int .i64 hi, .int .i64 F] w (SrtEnd S St (siftDown lt hi F lo d) w) := by
  have mL := h.mL
  have mS := h.mS
  have eL := h.enterL
  have eS := h.enterS
  have hsz := h.most
  have HD := Lib.hid (And.intro h hH)
  clear h hH
  go_enter Try.func100, Try.ntmps100
  go_wp2
  go_loopw [8] (fun vi wr => ∃ r : Nat, vi = .int .i64 r ∧ r ≤ n ∧ Hid (∃ dk, St wr dk ∧ Mod S w wr ∧ siftDown lt hi F r dk = siftDown lt hi F lo d)) (fun vi _ => n + 1 - (intOf vi).toNat)
  case atStart => exact ⟨lo, rfl, hlo, d, HD.out.2, Mod.refl _ _, rfl⟩
  case round =>
    obtain ⟨r, rfl, hrn, HR⟩ := hrel
    obtain ⟨dk, h1, h2, h3⟩ := HR.out
    have HO := Lib.hid (And.intro h1 (And.intro h2 h3))
    clear h1 h2 h3
    have r0 : Okd St wr := ⟨_, HO.out.1⟩
    have w1 : IntKind.i64.wrap (2 * (r : Int)) = 2 * (r : Int) := IntWalk.i64_in _ (by omega)
    have w2 : IntKind.i64.wrap (2 * (r : Int) + 1) = 2 * (r : Int) + 1 := IntWalk.i64_in _ (by omega)
    by_cases hc : 2 * r + 1 < hi
    · have hc' : ¬ (hi : Int) ≤ 2 * (r : Int) + 1 := by omega
      have w3 : IntKind.i64.wrap (2 * (r : Int) + 1 + 1) = 2 * (r : Int) + 1 + 1 := IntWalk.i64_in _ (by omega)
      have hl := fun (x y : Nat) (hx : x < n) (hy : y < n) (hxy : x ≠ y) w2 (hm : Mod (fun _ => False) wr w2) => HD.out.1.less w2 dk x y (HD.out.1.keep0 hm HO.out.1) hx hy hxy
      have hs := fun (x y : Nat) (hx : x < n) (hy : y < n) w2 (hm : Mod (fun _ => False) wr w2) => HD.out.1.swap w2 dk x y (HD.out.1.keep0 hm HO.out.1) hx hy
      have w4 : IntKind.i64.wrap ((F : Int) + (r : Int)) = (F : Int) + (r : Int) := IntWalk.i64_in _ (by omega)
      have w5 : IntKind.i64.wrap ((F : Int) + (2 * (r : Int) + 1)) = (F : Int) + (2 * (r : Int) + 1) := IntWalk.i64_in _ (by omega)
      have l1 := hl (F + (2 * r + 1)) (F + (2 * r + 1) + 1)
      have l2 := hl (F + r) (F + (2 * r + 1)) (by omega) (by omega) (by omega)
      have l3 := hl (F + r) (F + (2 * r + 2))
      have s2 := hs (F + r) (F + (2 * r + 1)) (by omega) (by omega)
      have s3 := hs (F + r) (F + (2 * r + 2))
      have e1 : ((F + (2 * r + 1) : Nat) : Int) = (F : Int) + (2 * (r : Int) + 1) := by omega
      have e2 : ((F + (2 * r + 1) + 1 : Nat) : Int) = (F : Int) + (2 * (r : Int) + 1) + 1 := by omega
      have e3 : ((F + r : Nat) : Int) = (F : Int) + (r : Int) := by omega
      have e4 : ((F + (2 * r + 2) : Nat) : Int) = (F : Int) + (2 * (r : Int) + 1 + 1) := by omega
      rw [e1, e2] at l1
      rw [e1, e3] at l2 s2
      rw [e3, e4] at l3 s3
      clear hl hs e1 e2 e3 e4
      by_cases h2 : 2 * r + 1 + 1 < hi
      · have h2' : 2 * (r : Int) + 1 + 1 < hi := by omega
        have l1 := l1 (by omega) (by omega) (by omega)
        have tok1 : True := trivial
        cases hv1 : lt dk[F + (2 * r + 1)]! dk[F + (2 * r + 1) + 1]! with
        | true =>
          rw [hv1] at l1
          have HA := Lib.hid l1
          cases hv : lt dk[F + r]! dk[F + (2 * r + 2)]! with
          | true =>
            rw [hv] at l3
            have HL := Lib.hid (l3 (by omega) (by omega) (by omega))
            have HS := Lib.hid (s3 (by omega) (by omega))
            clear l1 l2 l3 s2 s3
            go_wp2_with (first | (go_at_fn gl; have _t := tok1; clear _t tok1; refine (HA.out _ (Mod.refl _ _)).mono ?_; rintro e w3 ⟨rfl, hm3⟩; have r3 : Okd St w3 := ⟨_, HD.out.1.keep0 hm3 HO.out.1⟩; have HB := Lib.hid hm3; clear hm3) | (go_at_fn gl; refine (HL.out _ HB.out).mono ?_; rintro e w4 ⟨rfl, hm4⟩; have H3 := Lib.hid (HB.out.trans hm4); have r4 : Okd St w4 := ⟨_, HD.out.1.keep0 H3.out HO.out.1⟩; clear hm4) | (go_at_fn gs; refine (HS.out _ H3.out).mono ?_; rintro e w5 ⟨rfl, hs5, hm5⟩; have H4 := Lib.hid (And.intro hs5 ((none_sub H3.out).trans hm5)); clear hs5 hm5))
            go_roundw
            case rel => exact ⟨2 * r + 2, by congr 1, by omega, _, H4.out.1, HO.out.2.1.trans H4.out.2, by rw [← HO.out.2.2, sift_two h2 hv1 hv, if_pos rfl]⟩
            case measure => simp [intOf]; omega
          | false =>
            rw [hv] at l3
            have HL := Lib.hid (l3 (by omega) (by omega) (by omega))
            clear l1 l2 l3 s2 s3
            go_wp2_with (first | (go_at_fn gl; have _t := tok1; clear _t tok1; refine (HA.out _ (Mod.refl _ _)).mono ?_; rintro e w3 ⟨rfl, hm3⟩; have r3 : Okd St w3 := ⟨_, HD.out.1.keep0 hm3 HO.out.1⟩; have HB := Lib.hid hm3; clear hm3) | (go_at_fn gl; refine (HL.out _ HB.out).mono ?_; rintro e w4 ⟨rfl, hm4⟩; have H3 := Lib.hid (HB.out.trans hm4); have r4 : Okd St w4 := ⟨_, HD.out.1.keep0 H3.out HO.out.1⟩; clear hm4))
            go_end0
            exact ⟨rfl, by rw [← HO.out.2.2, sift_two h2 hv1 hv, if_neg (by decide)]; exact HD.out.1.keep0 H3.out HO.out.1, HO.out.2.1.trans (none_sub H3.out)⟩
        | false =>
          rw [hv1] at l1
          have HA := Lib.hid l1
          cases hv : lt dk[F + r]! dk[F + (2 * r + 1)]! with
          | true =>
            rw [hv] at l2
            have HL := Lib.hid l2
            have HS := Lib.hid s2
            clear l1 l2 l3 s2 s3
            go_wp2_with (first | (go_at_fn gl; have _t := tok1; clear _t tok1; refine (HA.out _ (Mod.refl _ _)).mono ?_; rintro e w3 ⟨rfl, hm3⟩; have r3 : Okd St w3 := ⟨_, HD.out.1.keep0 hm3 HO.out.1⟩; have HB := Lib.hid hm3; clear hm3) | (go_at_fn gl; refine (HL.out _ HB.out).mono ?_; rintro e w4 ⟨rfl, hm4⟩; have H3 := Lib.hid (HB.out.trans hm4); have r4 : Okd St w4 := ⟨_, HD.out.1.keep0 H3.out HO.out.1⟩; clear hm4) | (go_at_fn gs; refine (HS.out _ H3.out).mono ?_; rintro e w5 ⟨rfl, hs5, hm5⟩; have H4 := Lib.hid (And.intro hs5 ((none_sub H3.out).trans hm5)); clear hs5 hm5))
            go_roundw
            case rel => exact ⟨2 * r + 1, by congr 1, by omega, _, H4.out.1, HO.out.2.1.trans H4.out.2, by rw [← HO.out.2.2, sift_one hc (.inr hv1) hv, if_pos rfl]⟩
            case measure => simp [intOf]; omega
          | false =>
            rw [hv] at l2
            have HL := Lib.hid l2
            clear l1 l2 l3 s2 s3
            go_wp2_with (first | (go_at_fn gl; have _t := tok1; clear _t tok1; refine (HA.out _ (Mod.refl _ _)).mono ?_; rintro e w3 ⟨rfl, hm3⟩; have r3 : Okd St w3 := ⟨_, HD.out.1.keep0 hm3 HO.out.1⟩; have HB := Lib.hid hm3; clear hm3) | (go_at_fn gl; refine (HL.out _ HB.out).mono ?_; rintro e w4 ⟨rfl, hm4⟩; have H3 := Lib.hid (HB.out.trans hm4); have r4 : Okd St w4 := ⟨_, HD.out.1.keep0 H3.out HO.out.1⟩; clear hm4))
            go_end0
            exact ⟨rfl, by rw [← HO.out.2.2, sift_one hc (.inr hv1) hv, if_neg (by decide)]; exact HD.out.1.keep0 H3.out HO.out.1, HO.out.2.1.trans (none_sub H3.out)⟩
      · have h2' : ¬ 2 * (r : Int) + 1 + 1 < hi := by omega
        cases hv : lt dk[F + r]! dk[F + (2 * r + 1)]! with
        | true =>
          rw [hv] at l2
          have HL := Lib.hid l2
          have HS := Lib.hid s2
          clear l1 l2 l3 s2 s3
          go_wp2_with (first | (go_at_fn gl; refine (HL.out _ (Mod.refl _ _)).mono ?_; rintro e w3 ⟨rfl, hm3⟩; have r3 : Okd St w3 := ⟨_, HD.out.1.keep0 hm3 HO.out.1⟩; have H3 := Lib.hid hm3; clear hm3) | (go_at_fn gs; refine (HS.out _ H3.out).mono ?_; rintro e w5 ⟨rfl, hs5, hm5⟩; have H4 := Lib.hid (And.intro hs5 ((none_sub H3.out).trans hm5)); clear hs5 hm5))
          go_roundw
          case rel => exact ⟨2 * r + 1, by congr 1, by omega, _, H4.out.1, HO.out.2.1.trans H4.out.2, by rw [← HO.out.2.2, sift_one hc (.inl h2) hv, if_pos rfl]⟩
          case measure => simp [intOf]; omega
        | false =>
          rw [hv] at l2
          have HL := Lib.hid l2
          clear l1 l2 l3 s2 s3
          go_wp2_with (first | (go_at_fn gl; refine (HL.out _ (Mod.refl _ _)).mono ?_; rintro e w3 ⟨rfl, hm3⟩; have r3 : Okd St w3 := ⟨_, HD.out.1.keep0 hm3 HO.out.1⟩; have H3 := Lib.hid hm3; clear hm3))
          go_end0
          exact ⟨rfl, by rw [← HO.out.2.2, sift_one hc (.inl h2) hv, if_neg (by decide)]; exact HD.out.1.keep0 H3.out HO.out.1, HO.out.2.1.trans (none_sub H3.out)⟩
    · have hc' : (hi : Int) ≤ 2 * (r : Int) + 1 := by omega
      go_wp2
      go_end0
      exact ⟨rfl, by rw [← HO.out.2.2, sift_stop hc]; exact HO.out.1, HO.out.2.1⟩
end Go.Proofs.Ytmeooadgdagiiaa

namespace Go.Proofs.Ytmeooadgdagiiaa
open Go.RowKit Lox Go.Sort
set_option linter.unusedVariables false
variable {α : Type} [Inhabited α] {T : TypeId} {rv vl vs : Value} {gl gs n H : Nat} {lt : α → α → Bool} {S : Nat → Prop} {St : World → Array α → Prop}

set_option maxHeartbeats 800000 in
set_option maxRecDepth 100000 in
theorem heap_at (h : Srt T rv vl vs gl gs lt n H S St) (a b : Nat) (d : Array α) (w : World) (hH : St w d) (hab : a < b) (hb : b ≤ n) :
    Calls Try.prog 89 #[.iface T rv, .int .i64 a, .int .i64 b] w (SrtEnd S St (heapSort lt d a b) w) := by
  have mS := h.mS
  have eS := h.enterS
  have hsz := h.most
  have HD := Lib.hid (And.intro h hH)
  clear h hH
  obtain ⟨m, hm⟩ : ∃ m, m = b - a := ⟨_, rfl⟩
  obtain ⟨t, ht⟩ : ∃ t, t = (m - 1) / 2 := ⟨_, rfl⟩
  have em : ((m : Nat) : Int) = (b : Int) - (a : Int) := by omega
  have w1 : IntKind.i64.wrap ((b : Int) - (a : Int)) = (b : Int) - (a : Int) := IntWalk.i64_in _ (by omega)
  have w3 : IntKind.i64.wrap ((b : Int) - (a : Int) - 1) = (b : Int) - (a : Int) - 1 := IntWalk.i64_in _ (by omega)
  have w2 : ((b : Int) - (a : Int) - 1) / 2 = (t : Int) := by omega
  have w2' : ((b - a - 1 : Nat) : Int) / 2 = (t : Int) := by omega
  have EM := Lib.hid em
  clear em
  go_enter Try.func89, Try.ntmps89
  go_wp2
  go_loopw [9] (fun vi wr => ∃ k : Nat, vi = .int .i64 ((k : Int) - 1) ∧ k ≤ m ∧ Hid (∃ dk, St wr dk ∧ Mod S w wr ∧ heapBuild lt m a k dk = heapBuild lt m a (t + 1) d)) (fun vi _ => (intOf vi + 1).toNat)
  case atStart => exact ⟨t + 1, by congr 1; omega, by omega, d, HD.out.2, Mod.refl _ _, rfl⟩
  case round =>
    obtain ⟨k, rfl, hkm, HR⟩ := hrel
    obtain ⟨dk, h1, h2, h3⟩ := HR.out
    have HO := Lib.hid (And.intro h1 (And.intro h2 h3))
    clear h1 h2 h3
    by_cases hk : 0 < k
    · have hk' : (0 : Int) ≤ (k : Int) - 1 := by omega
      have hs := sift_at HD.out.1 (k - 1) m a dk wr HO.out.1 (by omega) (by omega)
      rw [show (((k - 1 : Nat) : Int)) = (k : Int) - 1 by omega, EM.out] at hs
      have HS := Lib.hid hs
      clear hs
      go_wp2_with (go_at_call 100; (with_reducible refine HS.out.mono ?_); rintro e w4 ⟨rfl, hs4, hm4⟩; have H4 := Lib.hid (And.intro hs4 hm4); clear hs4 hm4)
      go_roundw
      case rel =>
        refine ⟨k - 1, ?_, by omega, _, H4.out.1, HO.out.2.1.trans H4.out.2, by rw [← HO.out.2.2]; obtain ⟨k', rfl⟩ : ∃ k', k = k' + 1 := ⟨k - 1, by omega⟩; rfl⟩
        congr 1
        omega
      case measure => simp [intOf]; omega
    · obtain rfl : k = 0 := by omega
      go_wp2
      go_loopw [10] (fun vi w5 => ∃ k : Nat, vi = .int .i64 ((k : Int) - 1) ∧ k ≤ m ∧ Hid (∃ dj, St w5 dj ∧ Mod S w w5 ∧ heapPop lt a k dj = heapPop lt a m dk)) (fun vi _ => (intOf vi + 1).toNat)
      case atStart => exact ⟨m, by rw [EM.out], Nat.le_refl _, dk, HO.out.1, HO.out.2.1, rfl⟩
      case round =>
        obtain ⟨k, rfl, hkm2, HJ⟩ := hrel
        obtain ⟨dj, k1, k2, k3⟩ := HJ.out
        have HI := Lib.hid (And.intro k1 (And.intro k2 k3))
        clear k1 k2 k3
        have r0 : Okd St wr := ⟨_, HI.out.1⟩
        by_cases hk : 0 < k
        · have hk' : (0 : Int) ≤ (k : Int) - 1 := by omega
          have w4 : IntKind.i64.wrap ((a : Int) + ((k : Int) - 1)) = (a : Int) + ((k : Int) - 1) := IntWalk.i64_in _ (by omega)
          have hs := HD.out.1.swap _ dj a (a + (k - 1)) HI.out.1 (by omega) (by omega)
          rw [show (((a + (k - 1) : Nat) : Int)) = (a : Int) + ((k : Int) - 1) by omega] at hs
          have HS := Lib.hid hs
          have HF : Hid (∀ w6, St w6 (swp dj a (a + (k - 1))) → Calls Try.prog 100 #[.iface T rv, .int .i64 0, .int .i64 ((k : Int) - 1), .int .i64 a] w6 (SrtEnd S St (siftDown lt (k - 1) a 0 (swp dj a (a + (k - 1)))) w6)) := fun w6 h6 => by
            have := sift_at HD.out.1 0 (k - 1) a _ w6 h6 (by omega) (by omega)
            rw [show (((k - 1 : Nat) : Int)) = (k : Int) - 1 by omega] at this
            exact this
          clear hs
          go_wp2_with (first
            | (go_at_fn gs; refine HS.out.mono ?_; rintro e w6 ⟨rfl, hs6, hm6⟩; have H6 := Lib.hid (And.intro hs6 hm6); clear hs6 hm6)
            | (go_at_call 100; (with_reducible refine (HF.out _ H6.out.1).mono ?_); rintro e w7 ⟨rfl, hs7, hm7⟩; have H7 := Lib.hid (And.intro hs7 hm7); clear hs7 hm7))
          go_roundw
          case rel =>
            refine ⟨k - 1, ?_, by omega, _, H7.out.1, (HI.out.2.1.trans H6.out.2).trans H7.out.2, by rw [← HI.out.2.2]; obtain ⟨k', rfl⟩ : ∃ k', k = k' + 1 := ⟨k - 1, by omega⟩; rfl⟩
            congr 1
            omega
          case measure => simp [intOf]; omega
        · obtain rfl : k = 0 := by omega
          go_wp2
          go_end0
          refine ⟨rfl, ?_, HI.out.2.1⟩
          have e1 := HI.out.2.2
          have e2 := HO.out.2.2
          have e3 : heapSort lt d a b = dj := by
            unfold heapSort
            rw [← hm, ← ht, ← e2]
            exact e1.symm
          rw [e3]
          exact HI.out.1
end Go.Proofs.Ytmeooadgdagiiaa

namespace Go.Proofs.Ytmeooadgdagiiaa
open Go.RowKit Lox Go.Sort
set_option linter.unusedVariables false
variable {α : Type} [Inhabited α] {T : TypeId} {rv vl vs : Value} {gl gs n H : Nat} {lt : α → α → Bool} {S : Nat → Prop} {St : World → Array α → Prop}

theorem rev_go {i j : Nat} {d : Array α} (h : i < j) : reverseLoop i j d = reverseLoop (i + 1) (j - 1) (swp d i j) := by rw [reverseLoop, if_pos h]
theorem rev_stop {i j : Nat} {d : Array α} (h : ¬ i < j) : reverseLoop i j d = d := by rw [reverseLoop, if_neg h]

set_option maxHeartbeats 4000000 in
set_option maxRecDepth 100000 in
theorem reverse_at (h : Srt T rv vl vs gl gs lt n H S St) (a b : Nat) (d : Array α) (w : World) (hH : St w d) (hab : a < b) (hb : b ≤ n) :
    Calls Try.prog 92 #[.iface T rv, .int .i64 a, .int .i64 b] w (SrtEnd S St (reverseRange d a b) w) := by
  have mS := h.mS
  have eS := h.enterS
  have hsz := h.most
  have HD := Lib.hid (And.intro h hH)
  clear h hH
  go_enter Try.func92, Try.ntmps92
  go_wp2
  go_loopw [6, 7] (fun vi vj wr => ∃ i j : Nat, vi = .int .i64 i ∧ vj = .int .i64 j ∧ i ≤ n ∧ j < n ∧ Hid (∃ dk, St wr dk ∧ Mod S w wr ∧ reverseLoop i j dk = reverseLoop a (b - 1) d)) (fun _ vj _ => (intOf vj).toNat)
  case atStart => exact ⟨a, b - 1, rfl, by go_num, by omega, by omega, d, HD.out.2, Mod.refl _ _, rfl⟩
  case round =>
    obtain ⟨i, j, rfl, rfl, hin, hjn, HR⟩ := hrel
    obtain ⟨dk, h1, h2, h3⟩ := HR.out
    have HO := Lib.hid (And.intro h1 (And.intro h2 h3))
    clear h1 h2 h3
    have r0 : Okd St wr := ⟨_, HO.out.1⟩
    by_cases hlt : i < j
    · have hlt' : (i : Int) < j := by omega
      have HS := Lib.hid (HD.out.1.swap wr dk i j HO.out.1 (by omega) hjn)
      go_wp2_with (go_at_fn gs; refine HS.out.mono ?_; rintro e w4 ⟨rfl, hs4, hm4⟩; have H4 := Lib.hid (And.intro hs4 hm4); clear hs4 hm4)
      go_roundw
      case rel => exact ⟨i + 1, j - 1, by go_num, by congr 1; omega, by omega, by omega, _, H4.out.1, HO.out.2.1.trans H4.out.2, by rw [← HO.out.2.2, rev_go hlt]⟩
      case measure => simp [intOf]; omega
    · have hlt' : ¬ (i : Int) < j := by omega
      go_wp2
      go_end0
      exact ⟨rfl, by unfold reverseRange; rw [← HO.out.2.2, rev_stop hlt]; exact HO.out.1, HO.out.2.1⟩
end Go.Proofs.Ytmeooadgdagiiaa

namespace Go.Proofs.Ytmeooadgdagiiaa
open Go.RowKit Lox Go.Sort
set_option linter.unusedVariables false
variable {α : Type} [Inhabited α] {T : TypeId} {rv vl vs : Value} {gl gs n H : Nat} {lt : α → α → Bool} {S : Nat → Prop} {St : World → Array α → Prop}

/-- The list and the counter of swaps, in a block of its own. -/
structure Cnt (H : Nat) (St : World → Array α → Prop) (d : Array α) (sb s : Nat) (w : World) : Prop where
  st : St w d
  blk : Blk w sb 3 [.int .i64 s]
  far : H ≤ sb

theorem Cnt.mod {d : Array α} {sb s : Nat} {w w' : World} (c : Cnt H St d sb s w) (h : Srt T rv vl vs gl gs lt n H S St) (hm : Mod (fun _ => False) w w') : Cnt H St d sb s w' := ⟨h.keep0 hm c.st, c.blk.mod hm (fun h => h), c.far⟩

theorem sb_high {H sb : Nat} {w w' : World} (hf : H ≤ sb) (h : Mod (fun k => k = sb) w w') : Mod (fun k => H ≤ k) w w' := ⟨h.os, h.tape, h.output, h.size, fun k hk hn => h.block k hk (fun e => hn (by rw [e]; exact hf))⟩

set_option maxHeartbeats 2000000 in
set_option maxRecDepth 100000 in
theorem order2_at (h : Srt T rv vl vs gl gs lt n H S St) (a b s sb : Nat) (d : Array α) (w : World) (hc : Cnt H St d sb s w) (ha : a < n) (hb : b < n) (hab : a ≠ b) (hs : s ≤ 1000) :
    Calls Try.prog 105 #[.iface T rv, .int .i64 a, .int .i64 b, .pointer (some ⟨sb, 0, none⟩)] w fun e w' => ∃ x y s' : Nat, order2 lt d a b s = (x, y, s') ∧ e = .returned (.tuple #[.int .i64 x, .int .i64 y]) ∧ Cnt H St d sb s' w' ∧ Mod (fun k => k = sb) w w' ∧ x < n ∧ y < n ∧ s' ≤ s + 1 ∧ ((x = a ∧ y = b) ∨ (x = b ∧ y = a)) := by
  have mL := h.mL
  have r0 : Okd St w := ⟨_, hc.st⟩
  have eL := h.enterL
  have hl := h.less w d b a hc.st hb ha (Ne.symm hab)
  have HD := Lib.hid (And.intro h hc)
  clear h hc
  cases hv : lt d[b]! d[a]! with
  | true =>
    rw [hv] at hl
    have HL := Lib.hid hl
    clear hl
    have w1 : IntKind.i64.wrap ((s : Int) + 1) = (s : Int) + 1 := IntWalk.i64_in _ (by omega)
    go_enter Try.func105, Try.ntmps105
    go_wp2_with (go_at_fn gl; refine HL.out.mono ?_; rintro e w3 ⟨rfl, hm3⟩; have hc3 := HD.out.2.mod HD.out.1 hm3; have c0 := hc3.blk.at (i := 0) rfl; have z0 := hc3.blk.frozen 0; have H3 := Lib.hid (And.intro hc3 hm3); clear hc3 hm3)
    go_ret2
    have hm : Mod (fun k => k = sb) w3 (w3.setCell ⟨sb, 0, none⟩ (.int .i64 ((s : Int) + 1))) := (Mod.refl (fun k => k = sb) _).set (p := ⟨sb, 0, none⟩) (.inl rfl) _
    exact ⟨b, a, s + 1, by unfold order2; rw [if_pos hv], rfl, ⟨HD.out.1.keep _ _ _ (sb_high H3.out.1.far hm) H3.out.1.st, H3.out.1.blk.set 0 _, H3.out.1.far⟩, (none_sub H3.out.2).trans hm, hb, ha, Nat.le_refl _, .inr ⟨rfl, rfl⟩⟩
  | false =>
    rw [hv] at hl
    have HL := Lib.hid hl
    clear hl
    go_enter Try.func105, Try.ntmps105
    go_wp2_with (go_at_fn gl; refine HL.out.mono ?_; rintro e w3 ⟨rfl, hm3⟩; have H3 := Lib.hid (And.intro (HD.out.2.mod HD.out.1 hm3) hm3); clear hm3)
    go_ret2
    exact ⟨a, b, s, by unfold order2; rw [if_neg (by rw [hv]; decide)], rfl, H3.out.1, none_sub H3.out.2, ha, hb, by omega, .inl ⟨rfl, rfl⟩⟩

set_option maxHeartbeats 2000000 in
set_option maxRecDepth 100000 in
theorem median_at (h : Srt T rv vl vs gl gs lt n H S St) (a b c s sb : Nat) (d : Array α) (w : World) (hc : Cnt H St d sb s w) (ha : a < n) (hb : b < n) (hcn : c < n) (hab : a ≠ b) (hbc : b ≠ c) (hac : a ≠ c) (hs : s ≤ 900) :
    Calls Try.prog 104 #[.iface T rv, .int .i64 a, .int .i64 b, .int .i64 c, .pointer (some ⟨sb, 0, none⟩)] w fun e w' => ∃ x s' : Nat, median lt d a b c s = (x, s') ∧ e = .returned (.int .i64 x) ∧ Cnt H St d sb s' w' ∧ Mod (fun k => k = sb) w w' ∧ x < n ∧ s' ≤ s + 3 := by
  have HD := Lib.hid (And.intro h hc)
  clear h hc
  go_enter Try.func104, Try.ntmps104
  go_upto_region 2 with (go_at_call 105; refine (order2_at HD.out.1 a b s sb d w HD.out.2 ha hb hab (by omega)).mono ?_; rintro _ w1 ⟨x1, y1, s1, e1, rfl, hc1, hm1, hx1, hy1, hs1, hp1⟩; have H1 := Lib.hid (And.intro e1 (And.intro hc1 hm1)); clear e1 hc1 hm1)
  go_upto_region 3 with (go_at_call 105; refine (order2_at HD.out.1 y1 c s1 sb d w1 H1.out.2.1 hy1 hcn (by omega) (by omega)).mono ?_; rintro _ w2 ⟨x2, y2, s2, e2, rfl, hc2, hm2, hx2, hy2, hs2, hp2⟩; have H2 := Lib.hid (And.intro e2 (And.intro hc2 hm2)); clear e2 hc2 hm2)
  go_wp2_with (go_at_call 105; refine (order2_at HD.out.1 x1 x2 s2 sb d w2 H2.out.2.1 hx1 hx2 (by omega) (by omega)).mono ?_; rintro _ w3 ⟨x3, y3, s3, e3, rfl, hc3, hm3, hx3, hy3, hs3, _⟩; have H3 := Lib.hid (And.intro e3 (And.intro hc3 hm3)); clear e3 hc3 hm3)
  go_ret
  exact ⟨y3, s3, by unfold median; rw [H1.out.1]; show (let r2 := order2 lt d y1 c s1; let r3 := order2 lt d x1 r2.1 r2.2.2; (r3.2.1, r3.2.2)) = _; rw [H2.out.1]; show ((order2 lt d x1 x2 s2).2.1, (order2 lt d x1 x2 s2).2.2) = _; rw [H3.out.1], rfl, H3.out.2.1, (H1.out.2.2.trans H2.out.2.2).trans H3.out.2.2, hy3, by omega⟩

set_option maxHeartbeats 2000000 in
set_option maxRecDepth 100000 in
theorem medianAdj_at (h : Srt T rv vl vs gl gs lt n H S St) (a s sb : Nat) (d : Array α) (w : World) (hc : Cnt H St d sb s w) (ha : 0 < a) (hb : a + 1 < n) (hs : s ≤ 900) :
    Calls Try.prog 103 #[.iface T rv, .int .i64 a, .pointer (some ⟨sb, 0, none⟩)] w fun e w' => ∃ x s' : Nat, medianAdjacent lt d a s = (x, s') ∧ e = .returned (.int .i64 x) ∧ Cnt H St d sb s' w' ∧ Mod (fun k => k = sb) w w' ∧ x < n ∧ s' ≤ s + 3 := by
  have hm := median_at h (a - 1) a (a + 1) s sb d w hc (by omega) (by omega) hb (by omega) (by omega) (by omega) hs
  rw [show (((a - 1 : Nat) : Int)) = (a : Int) - 1 by omega, show (((a + 1 : Nat) : Int)) = (a : Int) + 1 by omega] at hm
  have HM := Lib.hid hm
  have hsz := h.most
  clear hm h hc
  go_enter Try.func103, Try.ntmps103
  go_wp2_with (go_at_call 104; refine HM.out.mono ?_; rintro _ w3 ⟨x, s', e1, rfl, hc1, hm1, hx, hs1⟩; have H1 := Lib.hid (And.intro e1 (And.intro hc1 hm1)); clear e1 hc1 hm1)
  go_ret
  exact ⟨x, s', H1.out.1, rfl, H1.out.2.1, H1.out.2.2, hx, hs1⟩
end Go.Proofs.Ytmeooadgdagiiaa

namespace Go.Proofs.Ytmeooadgdagiiaa
open Go.RowKit Lox Go.Sort
set_option linter.unusedVariables false
variable {α : Type} [Inhabited α] {T : TypeId} {rv vl vs : Value} {gl gs n H : Nat} {lt : α → α → Bool} {S : Nat → Prop} {St : World → Array α → Prop}

theorem eq_of_beq {x y : Int} (h : (x == y) = true) : x = y := by simpa using h
theorem ne_of_bne {x y : Int} (h : (x == y) = false) : x ≠ y := by simpa using h

theorem high_none {w W w' : World} {sb : Nat} (e : sb = w.heap.size) (h1 : Mod (fun _ => False) w W) (h2 : Mod (fun k => k = sb) W w') : Mod (fun _ => False) w w' := h1.trans' h2 fun i hi h => by omega

/-- The counter's way to a hint. -/
theorem hint_way {p s : Nat} {Hc : Int} (hHc : Hc = hintCode (hintOf s)) : (s = 0 → Hc = 1) ∧ (s = 12 → Hc = 2) ∧ (s ≠ 0 → s ≠ 12 → Hc = 0) :=
  ⟨fun h => by rw [hHc, h]; rfl, fun h => by rw [hHc, h]; rfl, fun h1 h2 => by rw [hHc]; unfold hintOf; rw [if_neg h1, if_neg h2]; rfl⟩

set_option maxHeartbeats 2000000 in
set_option maxRecDepth 100000 in
theorem pivot_at (h : Srt T rv vl vs gl gs lt n H S St) (a b : Nat) (d : Array α) (w : World) (hH : St w d) (hl : 12 < b - a) (hb : b ≤ n) :
    Calls Try.prog 91 #[.iface T rv, .int .i64 a, .int .i64 b] w fun e w' => e = .returned (.tuple #[.int .i64 (choosePivot lt d a b).1, .int .i64 (hintCode (choosePivot lt d a b).2)]) ∧ St w' d ∧ Mod (fun _ => False) w w' := by
  have hsz := h.most
  have HD := Lib.hid (And.intro h hH)
  clear h hH
  rw [choosePivot_eq]
  obtain ⟨I, hI⟩ : ∃ I : Nat, I = a + (b - a) / 4 * 1 := ⟨_, rfl⟩
  obtain ⟨J, hJ⟩ : ∃ J : Nat, J = a + (b - a) / 4 * 2 := ⟨_, rfl⟩
  obtain ⟨K, hK⟩ : ∃ K : Nat, K = a + (b - a) / 4 * 3 := ⟨_, rfl⟩
  have eI : ((a : Int) + ((b : Int) - (a : Int)) / 4) = (I : Int) := by omega
  have eJ : ((a : Int) + ((b : Int) - (a : Int)) / 4 * 2) = (J : Int) := by omega
  have eK : ((a : Int) + ((b : Int) - (a : Int)) / 4 * 3) = (K : Int) := by omega
  have bI : 0 < I ∧ I + 1 < n := by omega
  have bJ : 0 < J ∧ J + 1 < n := by omega
  have bK : 0 < K ∧ K + 1 < n := by omega
  have h8 : b - a ≥ 8 := by omega
  have h8z : (8 : Int) ≤ (b : Int) - (a : Int) := by omega
  have hlo : H ≤ w.heap.size := HD.out.1.low _ _ HD.out.2
  obtain ⟨sb, hsb⟩ : ∃ sb, sb = w.heap.size := ⟨_, rfl⟩
  have HC : Hid (Cnt H St d sb 0 (w.alloc (.cells #[.int .i64 0] 3)) ∧ Mod (fun _ => False) w (w.alloc (.cells #[.int .i64 0] 3))) := ⟨⟨HD.out.1.keep0 ((Mod.refl _ _).alloc _) HD.out.2, by rw [hsb]; exact Blk.new' w #[.int .i64 0] 3, by omega⟩, (Mod.refl _ _).alloc _⟩
  obtain ⟨p, s, hraw⟩ : ∃ p s, rawPivot lt d a b = (p, s) := ⟨_, _, rfl⟩
  rw [hraw]
  obtain ⟨Hc, hHc⟩ : ∃ Hc : Int, Hc = hintCode (hintOf s) := ⟨_, rfl⟩
  obtain ⟨hh0, hh12, hhx⟩ := hint_way (p := p) hHc
  show Calls Try.prog _ _ w fun e w' => e = .returned (.tuple #[.int .i64 (p : Int), .int .i64 (hintCode (hintOf s))]) ∧ St w' d ∧ Mod (fun _ => False) w w'
  rw [← hHc]
  by_cases h50 : b - a ≥ 50
  · have h50z : (50 : Int) ≤ (b : Int) - (a : Int) := by omega
    obtain ⟨i1, s1, h1⟩ : ∃ i1 s1, medianAdjacent lt d I 0 = (i1, s1) := ⟨_, _, rfl⟩
    obtain ⟨j1, s2, h2⟩ : ∃ j1 s2, medianAdjacent lt d J s1 = (j1, s2) := ⟨_, _, rfl⟩
    obtain ⟨k1, s3, h3⟩ : ∃ k1 s3, medianAdjacent lt d K s2 = (k1, s3) := ⟨_, _, rfl⟩
    have h4 : median lt d i1 j1 k1 s3 = (p, s) := by rw [← hraw]; simp only [rawPivot, if_pos h8, if_pos h50, ← hI, ← hJ, ← hK, h1, h2, h3]
    have m1 := medianAdjacent_mem lt d I 0; rw [h1] at m1
    have m2 := medianAdjacent_mem lt d J s1; rw [h2] at m2
    have m3 := medianAdjacent_mem lt d K s2; rw [h3] at m3
    have n1 := medianAdjacent_count lt d I 0; rw [h1] at n1
    have n2 := medianAdjacent_count lt d J s1; rw [h2] at n2
    have n3 := medianAdjacent_count lt d K s2; rw [h3] at n3
    simp only [] at m1 m2 m3 n1 n2 n3
    have c1 : Calls Try.prog 103 #[.iface T rv, .int .i64 (I : Int), .pointer (some ⟨sb, 0, none⟩)] (w.alloc (.cells #[.int .i64 0] 3)) fun e w' => e = .returned (.int .i64 (i1 : Int)) ∧ Cnt H St d sb s1 w' ∧ Mod (fun _ => False) w w' :=
      (medianAdj_at HD.out.1 I 0 sb d _ HC.out.1 bI.1 bI.2 (by omega)).mono fun e w' ⟨x, s', e1, he, hc, hm, _, _⟩ => by rw [h1] at e1; cases e1; exact ⟨he, hc, high_none hsb HC.out.2 hm⟩
    have c2 : ∀ W, Cnt H St d sb s1 W → Mod (fun _ => False) w W → Calls Try.prog 103 #[.iface T rv, .int .i64 (J : Int), .pointer (some ⟨sb, 0, none⟩)] W fun e w' => e = .returned (.int .i64 (j1 : Int)) ∧ Cnt H St d sb s2 w' ∧ Mod (fun _ => False) w w' := fun W hc hm =>
      (medianAdj_at HD.out.1 J s1 sb d _ hc bJ.1 bJ.2 (by omega)).mono fun e w' ⟨x, s', e1, he, hc', hm', _, _⟩ => by rw [h2] at e1; cases e1; exact ⟨he, hc', high_none hsb hm hm'⟩
    have c3 : ∀ W, Cnt H St d sb s2 W → Mod (fun _ => False) w W → Calls Try.prog 103 #[.iface T rv, .int .i64 (K : Int), .pointer (some ⟨sb, 0, none⟩)] W fun e w' => e = .returned (.int .i64 (k1 : Int)) ∧ Cnt H St d sb s3 w' ∧ Mod (fun _ => False) w w' := fun W hc hm =>
      (medianAdj_at HD.out.1 K s2 sb d _ hc bK.1 bK.2 (by omega)).mono fun e w' ⟨x, s', e1, he, hc', hm', _, _⟩ => by rw [h3] at e1; cases e1; exact ⟨he, hc', high_none hsb hm hm'⟩
    have c4 : ∀ W, Cnt H St d sb s3 W → Mod (fun _ => False) w W → Calls Try.prog 104 #[.iface T rv, .int .i64 (i1 : Int), .int .i64 (j1 : Int), .int .i64 (k1 : Int), .pointer (some ⟨sb, 0, none⟩)] W fun e w' => e = .returned (.int .i64 (p : Int)) ∧ Cnt H St d sb s w' ∧ Mod (fun _ => False) w w' := fun W hc hm =>
      (median_at HD.out.1 i1 j1 k1 s3 sb d _ hc (by omega) (by omega) (by omega) (by omega) (by omega) (by omega) (by omega)).mono fun e w' ⟨x, s', e1, he, hc', hm', _, _⟩ => by rw [h4] at e1; cases e1; exact ⟨he, hc', high_none hsb hm hm'⟩
    have D1 := Lib.hid c1
    have D2 := Lib.hid c2
    have D3 := Lib.hid c3
    have D4 := Lib.hid c4
    clear hHc hraw h1 h2 h3 h4 hI hJ hK m1 m2 m3 c1 c2 c3 c4
    subst hsb
    go_enter Try.func91, Try.ntmps91
    go_wp2_with (first
      | (go_at_call_of 103 (Value.int .i64 (I : Int)); refine D1.out.mono ?_; rintro e w1 ⟨rfl, k1, k2⟩; have K1 := Lib.hid (And.intro k1 k2); clear k1 k2)
      | (go_at_call_of 103 (Value.int .i64 (J : Int)); refine (D2.out _ K1.out.1 K1.out.2).mono ?_; rintro e w2 ⟨rfl, k1, k2⟩; have K2 := Lib.hid (And.intro k1 k2); clear k1 k2)
      | (go_at_call_of 103 (Value.int .i64 (K : Int)); refine (D3.out _ K2.out.1 K2.out.2).mono ?_; rintro e w3 ⟨rfl, k1, k2⟩; have K3 := Lib.hid (And.intro k1 k2); clear k1 k2)
      | (go_at_call 104; refine (D4.out _ K3.out.1 K3.out.2).mono ?_; rintro e w4 ⟨rfl, k1, k2⟩; have c4 := k1.blk.at (i := 0) rfl; have K4 := Lib.hid (And.intro k1 k2); clear k1 k2))
    all_goals
      go_ret2
      refine ⟨?_, K4.out.1.st, K4.out.2⟩
      first
        | (have e0 : (s : Int) = 0 := eq_of_beq (by assumption)
           rw [hh0 (by omega)]; rfl)
        | (have e1 : (s : Int) = 12 := eq_of_beq (by assumption)
           rw [hh12 (by omega)]; rfl)
        | (have e0 : (s : Int) ≠ 0 := ne_of_bne (by assumption)
           have e1 : (s : Int) ≠ 12 := ne_of_bne (by assumption)
           rw [hhx (by omega) (by omega)]; rfl)
        | (rw [hh0 (by omega)]; rfl)
  · have h50z : ¬ (50 : Int) ≤ (b : Int) - (a : Int) := by omega
    have h4 : median lt d I J K 0 = (p, s) := by rw [← hraw]; simp only [rawPivot, if_pos h8, if_neg h50, ← hI, ← hJ, ← hK]
    have c4 : Calls Try.prog 104 #[.iface T rv, .int .i64 (I : Int), .int .i64 (J : Int), .int .i64 (K : Int), .pointer (some ⟨sb, 0, none⟩)] (w.alloc (.cells #[.int .i64 0] 3)) fun e w' => e = .returned (.int .i64 (p : Int)) ∧ Cnt H St d sb s w' ∧ Mod (fun _ => False) w w' :=
      (median_at HD.out.1 I J K 0 sb d _ HC.out.1 (by omega) (by omega) (by omega) (by omega) (by omega) (by omega) (by omega)).mono fun e w' ⟨x, s', e1, he, hc', hm', _, _⟩ => by rw [h4] at e1; cases e1; exact ⟨he, hc', high_none hsb HC.out.2 hm'⟩
    have D4 := Lib.hid c4
    clear hHc hraw h4 hI hJ hK c4
    subst hsb
    go_enter Try.func91, Try.ntmps91
    go_wp2_with (go_at_call 104; refine D4.out.mono ?_; rintro e w4 ⟨rfl, k1, k2⟩; have c4 := k1.blk.at (i := 0) rfl; have K4 := Lib.hid (And.intro k1 k2); clear k1 k2)
    all_goals
      go_ret2
      refine ⟨?_, K4.out.1.st, K4.out.2⟩
      first
        | (have e0 : (s : Int) = 0 := eq_of_beq (by assumption)
           rw [hh0 (by omega)]; rfl)
        | (have e1 : (s : Int) = 12 := eq_of_beq (by assumption)
           rw [hh12 (by omega)]; rfl)
        | (have e0 : (s : Int) ≠ 0 := ne_of_bne (by assumption)
           have e1 : (s : Int) ≠ 12 := ne_of_bne (by assumption)
           rw [hhx (by omega) (by omega)]; rfl)
        | (rw [hh0 (by omega)]; rfl)
end Go.Proofs.Ytmeooadgdagiiaa
