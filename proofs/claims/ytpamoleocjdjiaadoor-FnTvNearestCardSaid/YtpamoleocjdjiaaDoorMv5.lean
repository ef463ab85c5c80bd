/- Steps of a proof, one behind another: sort.Sort over ANY receiver: the walks of sort.partitionEqual, sort.partition (printed by wip/gen_so2.py). sort.Sort: bits.Len, sort.nextPowerOfTwo (numbers below 65536), (*sort.xorshift).Next. sort.Sort over ANY receiver: the walk of sort.breakPatterns (at most 65535 elements). sort.Sort over ANY receiver: the walk of sort.partialInsertionSort (printed by wip/gen_so3.py). Conditions: as each theorem says. -/
import Derived.Test.YtpamoleocjdjiaaDoorMv4
import Derived.Sort.WalkC4
import Derived.Test.YtpamoleocjdjiaaDoorRows
import Derived.WalkKit
import Derived.Sort.Walk7
import Derived.Lib.BitFns
import Derived.Lib.Small
import Derived.Lib.Tables
import Derived.Deep.DeepCutAuto
import Derived.Deep.LoopGhost
import Derived.Sort.WalkA6

namespace Go.Proofs.YtpamoleocjdjiaaDoor
open Go.RowKit Lox Go.Sort
set_option linter.unusedVariables false
variable {α : Type} [Inhabited α] {T : TypeId} {rv vl vs : Value} {gl gs n H : Nat} {lt : α → α → Bool} {S : Nat → Prop} {St : World → Array α → Prop}

/-- From the world w on: the list d holds, and only blocks of S have turned. -/
def AtS (S : Nat → Prop) (St : World → Array α → Prop) (w : World) (d : Array α) (wr : World) : Prop := St wr d ∧ Mod S w wr

theorem less_at (h : Srt T rv vl vs gl gs lt n H S St) {w : World} (dk : Array α) (wr : World) (i j : Nat) (v : Bool) (hA : AtS S St w dk wr) (hi : i < n) (hj : j < n) (hij : i ≠ j) (hv : lt dk[i]! dk[j]! = v) :
    Calls Tryd.prog gl #[vl, .int .i64 i, .int .i64 j] wr fun e w' => e = .returned (.bool v) ∧ Okd St w' ∧ Hid (AtS S St w dk w') :=
  (h.less wr dk i j hA.1 hi hj hij).mono fun e w' ⟨he, hm⟩ => ⟨by rw [he, hv], ⟨_, h.keep0 hm hA.1⟩, h.keep0 hm hA.1, hA.2.trans (none_sub hm)⟩

theorem swap_at (h : Srt T rv vl vs gl gs lt n H S St) {w : World} (dk : Array α) (wr : World) (i j : Nat) (hA : AtS S St w dk wr) (hi : i < n) (hj : j < n) :
    Calls Tryd.prog gs #[vs, .int .i64 i, .int .i64 j] wr fun e w' => e = .returned (.tuple #[]) ∧ Okd St w' ∧ Hid (AtS S St w (swp dk i j) w') :=
  (h.swap wr dk i j hA.1 hi hj).mono fun e w' ⟨he, hs, hm⟩ => ⟨he, ⟨_, hs⟩, hs, hA.2.trans hm⟩

set_option maxHeartbeats 12800000 in
set_option maxRecDepth 100000 in
theorem partitionEqual_at (h : Srt T rv vl vs gl gs lt n H S St) (a b pivot : Nat) (d : Array α) (w : World) (hH : St w d) (hap : a ≤ pivot) (hpb : pivot < b) (hb : b ≤ n) :
    Calls Tryd.prog 77 #[.iface T rv, .int .i64 a, .int .i64 b, .int .i64 pivot] w fun e w' => e = .returned (.int .i64 (Sort.partitionEqual lt d a b pivot).1) ∧ AtS S St w (Sort.partitionEqual lt d a b pivot).2 w' := by
  have mL := h.mL
  have mS := h.mS
  have eL := h.enterL
  have eS := h.enterS
  have hsz := h.most
  have LC := Lib.hid (less_at h (w := w))
  have SC := Lib.hid (swap_at h (w := w))
  have HS : Hid (AtS S St w d w) := ⟨hH, Mod.refl _ _⟩
  have rz : Okd St w := ⟨_, hH⟩
  clear h hH
  go_enter Tryd.func77, Tryd.ntmps77
  go_wp2_with (go_at_fn gs; refine (SC.out d _ a pivot HS.out (by omega) (by omega)).mono ?_; rintro e w' ⟨rfl, r0, H0⟩)
  go_loopw [9, 10] (fun vi vj wr => ∃ (i j : Nat) (dk : Array α), vi = .int .i64 i ∧ vj = .int .i64 j ∧ a < i ∧ i ≤ j + 1 ∧ j < b ∧ Hid (AtS S St w dk wr) ∧ Hid (Sort.partEqLoop lt a i j dk = Sort.partEqLoop lt a (a + 1) (b - 1) (Sort.swp d a pivot))) (fun vi vj _ => (intOf vj).toNat + 1 - (intOf vi).toNat)
  case atStart => exact ⟨a + 1, b - 1, Sort.swp d a pivot, by go_num, by go_num, by omega, by omega, by omega, H0, rfl⟩
  case round =>
    obtain ⟨i, j, dk, rfl, rfl, hai, hij, hjb, HA, AE⟩ := hrel
    go_wp2
    go_loopw [9] (fun vi w1 => ∃ i' : Nat, vi = .int .i64 i' ∧ i ≤ i' ∧ i' ≤ j + 1 ∧ Hid (AtS S St w dk w1) ∧ Hid (Sort.scanUp (fun x => !lt dk[a]! x) dk j i' = Sort.scanUp (fun x => !lt dk[a]! x) dk j i)) (fun vi _ => j + 1 - (intOf vi).toNat)
    case atStart => exact ⟨i, rfl, Nat.le_refl _, hij, HA, rfl⟩
    case round =>
      obtain ⟨i', rfl, hii, hij', HB, hsc⟩ := hrel
      have r3 : Okd St wr := ⟨_, HB.out.1⟩
      by_cases hle : i' ≤ j
      · have hlez : (i' : Int) ≤ j := by omega
        cases hlv : lt dk[a]! dk[i']! with
        | false =>
          go_wp2_with (go_at_fn gl; refine (LC.out dk _ a i' false HB.out (by omega) (by omega) (by omega) hlv).mono ?_; rintro e w' ⟨rfl, r1, HC⟩)
          go_roundw
          case rel => exact ⟨i' + 1, by go_num, by omega, by omega, HC, (scanUp_go (fun x => !lt dk[a]! x) dk j i' hle (by simp [hlv])).symm.trans hsc.out⟩
          case measure => simp [intOf]; omega
        | true =>
          have hi2 : Hid (i' = Sort.scanUp (fun x => !lt dk[a]! x) dk j i) := (scanUp_end (fun x => !lt dk[a]! x) dk j i' (Or.inr (by simp [hlv]))).symm.trans hsc.out
          go_wp2_with (go_at_fn gl; refine (LC.out dk _ a i' true HB.out (by omega) (by omega) (by omega) hlv).mono ?_; rintro e w' ⟨rfl, r1, HC⟩)
          clear hsc hlv
          go_loopw [10] (fun vj w2 => ∃ j' : Nat, vj = .int .i64 j' ∧ j' ≤ j ∧ i' ≤ j' + 1 ∧ Hid (AtS S St w dk w2) ∧ Hid (Sort.scanDown (fun x => lt dk[a]! x) dk i' j' = Sort.scanDown (fun x => lt dk[a]! x) dk i' j)) (fun vj _ => (intOf vj).toNat)
          case atStart => exact ⟨j, rfl, Nat.le_refl _, hij', HC, rfl⟩
          case round =>
            obtain ⟨j', rfl, hjj, hij2, HE, hsd⟩ := hrel
            have r4 : Okd St wr := ⟨_, HE.out.1⟩
            by_cases hle2 : i' ≤ j'
            · have hle2z : (i' : Int) ≤ j' := by omega
              cases hlv2 : lt dk[a]! dk[j']! with
              | true =>
                go_wp2_with (go_at_fn gl; refine (LC.out dk _ a j' true HE.out (by omega) (by omega) (by omega) hlv2).mono ?_; rintro e w' ⟨rfl, r1, HF⟩)
                go_roundw
                case rel => exact ⟨j' - 1, by go_num, by omega, by omega, HF, (scanDown_go (fun x => lt dk[a]! x) dk i' j' hle2 (by omega) hlv2).symm.trans hsd.out⟩
                case measure => simp [intOf]; omega
              | false =>
                have hj2 : Hid (j' = Sort.scanDown (fun x => lt dk[a]! x) dk i' j) := (scanDown_end (fun x => lt dk[a]! x) dk i' j' (Or.inr hlv2)).symm.trans hsd.out
                have hlt3 := scans_lt lt a i j dk (by omega) hi2.out hj2.out hle2
                have hltz : ¬ ((j' : Int) < i') := by omega
                clear hsd
                go_wp2_with (first | (go_at_fn gl; refine (LC.out dk _ a j' false HE.out (by omega) (by omega) (by omega) hlv2).mono ?_; rintro e w' ⟨rfl, r1, HF⟩) | (go_at_fn gs; refine (SC.out dk _ i' j' HF.out (by omega) (by omega)).mono ?_; rintro e w' ⟨rfl, r2, HG⟩))
                go_roundw
                case rel => exact ⟨i' + 1, j' - 1, Sort.swp dk i' j', by go_num, by go_num, by omega, by omega, by omega, HG, (show Hid _ from by rw [← AE.out]; exact (partEq_go lt a i j dk hi2.out hj2.out (by omega)).symm)⟩
                case measure => simp [intOf]; omega
            · have hle2z : ¬ (i' : Int) ≤ j' := by omega
              have hj2 : Hid (j' = Sort.scanDown (fun x => lt dk[a]! x) dk i' j) := (scanDown_end (fun x => lt dk[a]! x) dk i' j' (Or.inl hle2)).symm.trans hsd.out
              have hltz : ((j' : Int) < i') := by omega
              clear hsd
              go_wp2
              go_ret
              have e := partEq_break lt a i j dk hi2.out hj2.out (by omega)
              refine ⟨?_, ?_⟩
              · unfold Sort.partitionEqual; rw [← AE.out, e]; rfl
              · unfold Sort.partitionEqual; rw [← AE.out, e]; exact HE.out
      · have hlez : ¬ (i' : Int) ≤ j := by omega
        have hi2 : Hid (i' = Sort.scanUp (fun x => !lt dk[a]! x) dk j i) := (scanUp_end (fun x => !lt dk[a]! x) dk j i' (Or.inl hle)).symm.trans hsc.out
        go_wp2
        clear hsc
        go_loopw [10] (fun vj w2 => ∃ j' : Nat, vj = .int .i64 j' ∧ j' ≤ j ∧ i' ≤ j' + 1 ∧ Hid (AtS S St w dk w2) ∧ Hid (Sort.scanDown (fun x => lt dk[a]! x) dk i' j' = Sort.scanDown (fun x => lt dk[a]! x) dk i' j)) (fun vj _ => (intOf vj).toNat)
        case atStart => exact ⟨j, rfl, Nat.le_refl _, hij', HB, rfl⟩
        case round =>
          obtain ⟨j', rfl, hjj, hij2, HE, hsd⟩ := hrel
          have r4 : Okd St wr := ⟨_, HE.out.1⟩
          by_cases hle2 : i' ≤ j'
          · exfalso; omega
          · have hle2z : ¬ (i' : Int) ≤ j' := by omega
            have hj2 : Hid (j' = Sort.scanDown (fun x => lt dk[a]! x) dk i' j) := (scanDown_end (fun x => lt dk[a]! x) dk i' j' (Or.inl hle2)).symm.trans hsd.out
            have hltz : ((j' : Int) < i') := by omega
            clear hsd
            go_wp2
            go_ret
            have e := partEq_break lt a i j dk hi2.out hj2.out (by omega)
            refine ⟨?_, ?_⟩
            · unfold Sort.partitionEqual; rw [← AE.out, e]; rfl
            · unfold Sort.partitionEqual; rw [← AE.out, e]; exact HE.out

set_option maxHeartbeats 12800000 in
set_option maxRecDepth 100000 in
theorem partition_at (h : Srt T rv vl vs gl gs lt n H S St) (a b pivot : Nat) (d : Array α) (w : World) (hH : St w d) (hap : a ≤ pivot) (hpb : pivot < b) (hb : b ≤ n) :
    Calls Tryd.prog 78 #[.iface T rv, .int .i64 a, .int .i64 b, .int .i64 pivot] w fun e w' => e = .returned (.tuple #[.int .i64 (Sort.partition lt d a b pivot).1, .bool (Sort.partition lt d a b pivot).2.1]) ∧ AtS S St w (Sort.partition lt d a b pivot).2.2 w' := by
  have mL := h.mL
  have mS := h.mS
  have eL := h.enterL
  have eS := h.enterS
  have hsz := h.most
  have LC := Lib.hid (less_at h (w := w))
  have SC := Lib.hid (swap_at h (w := w))
  have HS : Hid (AtS S St w d w) := ⟨hH, Mod.refl _ _⟩
  have rz : Okd St w := ⟨_, hH⟩
  clear h hH
  obtain ⟨i, hi⟩ : ∃ i : Nat, i = a + 1 := ⟨_, rfl⟩
  obtain ⟨j, hj⟩ : ∃ j : Nat, j = b - 1 := ⟨_, rfl⟩
  obtain ⟨dk, hdk⟩ : ∃ dk : Array α, dk = Sort.swp d a pivot := ⟨_, rfl⟩
  have hai : a < i := by omega
  have hij : i ≤ j + 1 := by omega
  have hjb : j < b := by omega
  have ei : (a : Int) + 1 = (i : Int) := by omega
  have ej : (b : Int) - 1 = (j : Int) := by omega
  have Hi : Hid (i = a + 1) := hi
  have Hj : Hid (j = b - 1) := hj
  have Hdk : Hid (dk = Sort.swp d a pivot) := hdk
  have H0 := Lib.hid (SC.out d _ a pivot HS.out (by omega) (by omega))
  rw [← hdk] at H0
  clear hi hj hdk
  go_enter Tryd.func78, Tryd.ntmps78
  go_wp2_with (go_at_fn gs; refine H0.out.mono ?_; rintro e w' ⟨rfl, r0, HA⟩)
  clear ei ej
  go_loopw [10] (fun vi w1 => ∃ i' : Nat, vi = .int .i64 i' ∧ i ≤ i' ∧ i' ≤ j + 1 ∧ Hid (AtS S St w dk w1) ∧ Hid (Sort.scanUp (fun x => lt x dk[a]!) dk j i' = Sort.scanUp (fun x => lt x dk[a]!) dk j i)) (fun vi _ => j + 1 - (intOf vi).toNat)
  case atStart => exact ⟨i, rfl, Nat.le_refl _, hij, HA, rfl⟩
  case round =>
    obtain ⟨i', rfl, hii, hij', HB, hsc⟩ := hrel
    have r3 : Okd St wr := ⟨_, HB.out.1⟩
    by_cases hle : i' ≤ j
    · have hlez : (i' : Int) ≤ j := by omega
      cases hlv : lt dk[i']! dk[a]! with
      | true =>
        go_wp2_with (go_at_fn gl; refine (LC.out dk _ i' a true HB.out (by omega) (by omega) (by omega) hlv).mono ?_; rintro e w' ⟨rfl, r1, HC⟩)
        go_roundw
        case rel => exact ⟨i' + 1, by go_num, by omega, by omega, HC, (scanUp_go (fun x => lt x dk[a]!) dk j i' hle hlv).symm.trans hsc.out⟩
        case measure => simp [intOf]; omega
      | false =>
        have hi2 : Hid (i' = Sort.scanUp (fun x => lt x dk[a]!) dk j i) := (scanUp_end (fun x => lt x dk[a]!) dk j i' (Or.inr hlv)).symm.trans hsc.out
        go_wp2_with (go_at_fn gl; refine (LC.out dk _ i' a false HB.out (by omega) (by omega) (by omega) hlv).mono ?_; rintro e w' ⟨rfl, r1, HC⟩)
        clear hsc hlv
        go_loopw [11] (fun vj w2 => ∃ j' : Nat, vj = .int .i64 j' ∧ j' ≤ j ∧ i' ≤ j' + 1 ∧ Hid (AtS S St w dk w2) ∧ Hid (Sort.scanDown (fun x => !lt x dk[a]!) dk i' j' = Sort.scanDown (fun x => !lt x dk[a]!) dk i' j)) (fun vj _ => (intOf vj).toNat)
        case atStart => exact ⟨j, rfl, Nat.le_refl _, hij', HC, rfl⟩
        case round =>
          obtain ⟨j', rfl, hjj, hij2, HE, hsd⟩ := hrel
          have r4 : Okd St wr := ⟨_, HE.out.1⟩
          by_cases hle2 : i' ≤ j'
          · have hle2z : (i' : Int) ≤ j' := by omega
            cases hlv2 : lt dk[j']! dk[a]! with
            | false =>
              go_wp2_with (go_at_fn gl; refine (LC.out dk _ j' a false HE.out (by omega) (by omega) (by omega) hlv2).mono ?_; rintro e w' ⟨rfl, r1, HF⟩)
              go_roundw
              case rel => exact ⟨j' - 1, by go_num, by omega, by omega, HF, (scanDown_go (fun x => !lt x dk[a]!) dk i' j' hle2 (by omega) (by simp [hlv2])).symm.trans hsd.out⟩
              case measure => simp [intOf]; omega
            | true =>
              have hj2 : Hid (j' = Sort.scanDown (fun x => !lt x dk[a]!) dk i' j) := (scanDown_end (fun x => !lt x dk[a]!) dk i' j' (Or.inr (by simp [hlv2]))).symm.trans hsd.out
              have hlt3 := part_scans_lt lt a i j dk (by omega) hi2.out hj2.out hle2
              have hltz : ¬ ((j' : Int) < i') := by omega
              clear hsd
              go_wp2_with (first | (go_at_fn gl; refine (LC.out dk _ j' a true HE.out (by omega) (by omega) (by omega) hlv2).mono ?_; rintro e w' ⟨rfl, r1, HF⟩) | (go_at_fn gs; refine (SC.out dk _ i' j' HF.out (by omega) (by omega)).mono ?_; rintro e w' ⟨rfl, r2, HG⟩))
              (try rw [decide_eq_false (show ¬ j' < i' by omega)])
              obtain ⟨I0, hI0⟩ : ∃ I0 : Nat, I0 = i' + 1 := ⟨_, rfl⟩
              obtain ⟨J0, hJ0⟩ : ∃ J0 : Nat, J0 = j' - 1 := ⟨_, rfl⟩
              obtain ⟨D0, hD0⟩ : ∃ D0 : Array α, D0 = Sort.swp dk i' j' := ⟨_, rfl⟩
              have PF : Hid (Sort.partition lt d a b pivot = ((Sort.partLoop lt a I0 J0 D0).1, false, Sort.swp (Sort.partLoop lt a I0 J0 D0).2 (Sort.partLoop lt a I0 J0 D0).1 a)) := by
                rw [hI0, hJ0, hD0]; exact part_first_go lt d a b pivot Hi.out Hj.out Hdk.out hi2.out hj2.out (by omega)
              go_loopw [10, 11] (fun vi vj wr => ∃ (i j : Nat) (dk : Array α), vi = .int .i64 i ∧ vj = .int .i64 j ∧ a < i ∧ i ≤ j + 1 ∧ j < b ∧ Hid (AtS S St w dk wr) ∧ Hid (Sort.partLoop lt a i j dk = Sort.partLoop lt a I0 J0 D0)) (fun vi vj _ => (intOf vj).toNat + 1 - (intOf vi).toNat)
              case atStart => exact ⟨i' + 1, j' - 1, Sort.swp dk i' j', by go_num, by go_num, by omega, by omega, by omega, HG, (show Hid _ from by rw [hI0, hJ0, hD0]; exact rfl)⟩
              case round =>
                clear hI0 hJ0 hD0 hj2 hi2 hlt3 hlv2 Hi Hj Hdk hltz hle2z hlez HA HB HC HE HF HG
                obtain ⟨i, j, dk, rfl, rfl, hai, hij, hjb, HA, AE⟩ := hrel
                go_wp2
                go_loopw [10] (fun vi w1 => ∃ i' : Nat, vi = .int .i64 i' ∧ i ≤ i' ∧ i' ≤ j + 1 ∧ Hid (AtS S St w dk w1) ∧ Hid (Sort.scanUp (fun x => lt x dk[a]!) dk j i' = Sort.scanUp (fun x => lt x dk[a]!) dk j i)) (fun vi _ => j + 1 - (intOf vi).toNat)
                case atStart => exact ⟨i, rfl, Nat.le_refl _, hij, HA, rfl⟩
                case round =>
                  obtain ⟨i', rfl, hii, hij', HB, hsc⟩ := hrel
                  have r3 : Okd St wr := ⟨_, HB.out.1⟩
                  by_cases hle : i' ≤ j
                  · have hlez : (i' : Int) ≤ j := by omega
                    cases hlv : lt dk[i']! dk[a]! with
                    | true =>
                      go_wp2_with (go_at_fn gl; refine (LC.out dk _ i' a true HB.out (by omega) (by omega) (by omega) hlv).mono ?_; rintro e w' ⟨rfl, r1, HC⟩)
                      go_roundw
                      case rel => exact ⟨i' + 1, by go_num, by omega, by omega, HC, (scanUp_go (fun x => lt x dk[a]!) dk j i' hle hlv).symm.trans hsc.out⟩
                      case measure => simp [intOf]; omega
                    | false =>
                      have hi2 : Hid (i' = Sort.scanUp (fun x => lt x dk[a]!) dk j i) := (scanUp_end (fun x => lt x dk[a]!) dk j i' (Or.inr hlv)).symm.trans hsc.out
                      go_wp2_with (go_at_fn gl; refine (LC.out dk _ i' a false HB.out (by omega) (by omega) (by omega) hlv).mono ?_; rintro e w' ⟨rfl, r1, HC⟩)
                      clear hsc hlv
                      go_loopw [11] (fun vj w2 => ∃ j' : Nat, vj = .int .i64 j' ∧ j' ≤ j ∧ i' ≤ j' + 1 ∧ Hid (AtS S St w dk w2) ∧ Hid (Sort.scanDown (fun x => !lt x dk[a]!) dk i' j' = Sort.scanDown (fun x => !lt x dk[a]!) dk i' j)) (fun vj _ => (intOf vj).toNat)
                      case atStart => exact ⟨j, rfl, Nat.le_refl _, hij', HC, rfl⟩
                      case round =>
                        obtain ⟨j', rfl, hjj, hij2, HE, hsd⟩ := hrel
                        have r4 : Okd St wr := ⟨_, HE.out.1⟩
                        by_cases hle2 : i' ≤ j'
                        · have hle2z : (i' : Int) ≤ j' := by omega
                          cases hlv2 : lt dk[j']! dk[a]! with
                          | false =>
                            go_wp2_with (go_at_fn gl; refine (LC.out dk _ j' a false HE.out (by omega) (by omega) (by omega) hlv2).mono ?_; rintro e w' ⟨rfl, r1, HF⟩)
                            go_roundw
                            case rel => exact ⟨j' - 1, by go_num, by omega, by omega, HF, (scanDown_go (fun x => !lt x dk[a]!) dk i' j' hle2 (by omega) (by simp [hlv2])).symm.trans hsd.out⟩
                            case measure => simp [intOf]; omega
                          | true =>
                            have hj2 : Hid (j' = Sort.scanDown (fun x => !lt x dk[a]!) dk i' j) := (scanDown_end (fun x => !lt x dk[a]!) dk i' j' (Or.inr (by simp [hlv2]))).symm.trans hsd.out
                            have hlt3 := part_scans_lt lt a i j dk (by omega) hi2.out hj2.out hle2
                            have hltz : ¬ ((j' : Int) < i') := by omega
                            clear hsd
                            go_wp2_with (first | (go_at_fn gl; refine (LC.out dk _ j' a true HE.out (by omega) (by omega) (by omega) hlv2).mono ?_; rintro e w' ⟨rfl, r1, HF⟩) | (go_at_fn gs; refine (SC.out dk _ i' j' HF.out (by omega) (by omega)).mono ?_; rintro e w' ⟨rfl, r2, HG⟩))
                            go_roundw
                            case rel => exact ⟨i' + 1, j' - 1, Sort.swp dk i' j', by go_num, by go_num, by omega, by omega, by omega, HG, (show Hid _ from by rw [← AE.out]; exact (part_go lt a i j dk hi2.out hj2.out (by omega)).symm)⟩
                            case measure => simp [intOf]; omega
                        · have hle2z : ¬ (i' : Int) ≤ j' := by omega
                          have hj2 : Hid (j' = Sort.scanDown (fun x => !lt x dk[a]!) dk i' j) := (scanDown_end (fun x => !lt x dk[a]!) dk i' j' (Or.inl hle2)).symm.trans hsd.out
                          have hltz : ((j' : Int) < i') := by omega
                          clear hsd
                          go_wp2_with (go_at_fn gs; refine (SC.out dk _ j' a HE.out (by omega) (by omega)).mono ?_; rintro e w' ⟨rfl, r2, HG⟩)
                          go_ret2
                          have e := part_break lt a i j dk hi2.out hj2.out (by omega)
                          rw [PF.out, ← AE.out, e]
                          exact ⟨rfl, HG.out⟩
                  · have hlez : ¬ (i' : Int) ≤ j := by omega
                    have hi2 : Hid (i' = Sort.scanUp (fun x => lt x dk[a]!) dk j i) := (scanUp_end (fun x => lt x dk[a]!) dk j i' (Or.inl hle)).symm.trans hsc.out
                    go_wp2
                    clear hsc
                    go_loopw [11] (fun vj w2 => ∃ j' : Nat, vj = .int .i64 j' ∧ j' ≤ j ∧ i' ≤ j' + 1 ∧ Hid (AtS S St w dk w2) ∧ Hid (Sort.scanDown (fun x => !lt x dk[a]!) dk i' j' = Sort.scanDown (fun x => !lt x dk[a]!) dk i' j)) (fun vj _ => (intOf vj).toNat)
                    case atStart => exact ⟨j, rfl, Nat.le_refl _, hij', HB, rfl⟩
                    case round =>
                      obtain ⟨j', rfl, hjj, hij2, HE, hsd⟩ := hrel
                      have r4 : Okd St wr := ⟨_, HE.out.1⟩
                      by_cases hle2 : i' ≤ j'
                      · exfalso; omega
                      · have hle2z : ¬ (i' : Int) ≤ j' := by omega
                        have hj2 : Hid (j' = Sort.scanDown (fun x => !lt x dk[a]!) dk i' j) := (scanDown_end (fun x => !lt x dk[a]!) dk i' j' (Or.inl hle2)).symm.trans hsd.out
                        have hltz : ((j' : Int) < i') := by omega
                        clear hsd
                        go_wp2_with (go_at_fn gs; refine (SC.out dk _ j' a HE.out (by omega) (by omega)).mono ?_; rintro e w' ⟨rfl, r2, HG⟩)
                        go_ret2
                        have e := part_break lt a i j dk hi2.out hj2.out (by omega)
                        rw [PF.out, ← AE.out, e]
                        exact ⟨rfl, HG.out⟩
          · have hle2z : ¬ (i' : Int) ≤ j' := by omega
            have hj2 : Hid (j' = Sort.scanDown (fun x => !lt x dk[a]!) dk i' j) := (scanDown_end (fun x => !lt x dk[a]!) dk i' j' (Or.inl hle2)).symm.trans hsd.out
            have hltz : ((j' : Int) < i') := by omega
            clear hsd
            go_wp2_with (go_at_fn gs; refine (SC.out dk _ j' a HE.out (by omega) (by omega)).mono ?_; rintro e w' ⟨rfl, r2, HG⟩)
            go_ret2
            have e := part_first_break lt d a b pivot Hi.out Hj.out Hdk.out hi2.out hj2.out (by omega)
            rw [e]
            exact ⟨rfl, HG.out⟩
    · have hlez : ¬ (i' : Int) ≤ j := by omega
      have hi2 : Hid (i' = Sort.scanUp (fun x => lt x dk[a]!) dk j i) := (scanUp_end (fun x => lt x dk[a]!) dk j i' (Or.inl hle)).symm.trans hsc.out
      go_wp2
      clear hsc
      go_loopw [11] (fun vj w2 => ∃ j' : Nat, vj = .int .i64 j' ∧ j' ≤ j ∧ i' ≤ j' + 1 ∧ Hid (AtS S St w dk w2) ∧ Hid (Sort.scanDown (fun x => !lt x dk[a]!) dk i' j' = Sort.scanDown (fun x => !lt x dk[a]!) dk i' j)) (fun vj _ => (intOf vj).toNat)
      case atStart => exact ⟨j, rfl, Nat.le_refl _, hij', HB, rfl⟩
      case round =>
        obtain ⟨j', rfl, hjj, hij2, HE, hsd⟩ := hrel
        have r4 : Okd St wr := ⟨_, HE.out.1⟩
        by_cases hle2 : i' ≤ j'
        · exfalso; omega
        · have hle2z : ¬ (i' : Int) ≤ j' := by omega
          have hj2 : Hid (j' = Sort.scanDown (fun x => !lt x dk[a]!) dk i' j) := (scanDown_end (fun x => !lt x dk[a]!) dk i' j' (Or.inl hle2)).symm.trans hsd.out
          have hltz : ((j' : Int) < i') := by omega
          clear hsd
          go_wp2_with (go_at_fn gs; refine (SC.out dk _ j' a HE.out (by omega) (by omega)).mono ?_; rintro e w' ⟨rfl, r2, HG⟩)
          go_ret2
          have e := part_first_break lt d a b pivot Hi.out Hj.out Hdk.out hi2.out hj2.out (by omega)
          rw [e]
          exact ⟨rfl, HG.out⟩
end Go.Proofs.YtpamoleocjdjiaaDoor

namespace Go.Proofs.YtpamoleocjdjiaaDoor
open Go.RowKit Lox Go.Sort
set_option linter.unusedVariables false

set_option maxRecDepth 1000000 in
/-- The number of bits of 0 to 255, as the program writes it, is the kit's table. -/
theorem fold_len : (ByteArray.mk ((([0, 1, 2, 2, 3, 3, 3, 3, 4, 4, 4, 4, 4, 4, 4, 4, 5, 5, 5, 5, 5, 5, 5, 5, 5, 5, 5, 5, 5, 5, 5, 5, 6, 6, 6, 6, 6, 6, 6, 6, 6, 6, 6, 6, 6, 6, 6, 6, 6, 6, 6, 6, 6, 6, 6, 6, 6, 6, 6, 6, 6, 6, 6, 6] : List UInt8).append [7, 7, 7, 7, 7, 7, 7, 7, 7, 7, 7, 7, 7, 7, 7, 7, 7, 7, 7, 7, 7, 7, 7, 7, 7, 7, 7, 7, 7, 7, 7, 7, 7, 7, 7, 7, 7, 7, 7, 7, 7, 7, 7, 7, 7, 7, 7, 7, 7, 7, 7, 7, 7, 7, 7, 7, 7, 7, 7, 7, 7, 7, 7, 7]).append ([8, 8, 8, 8, 8, 8, 8, 8, 8, 8, 8, 8, 8, 8, 8, 8, 8, 8, 8, 8, 8, 8, 8, 8, 8, 8, 8, 8, 8, 8, 8, 8, 8, 8, 8, 8, 8, 8, 8, 8, 8, 8, 8, 8, 8, 8, 8, 8, 8, 8, 8, 8, 8, 8, 8, 8, 8, 8, 8, 8, 8, 8, 8, 8].append [8, 8, 8, 8, 8, 8, 8, 8, 8, 8, 8, 8, 8, 8, 8, 8, 8, 8, 8, 8, 8, 8, 8, 8, 8, 8, 8, 8, 8, 8, 8, 8, 8, 8, 8, 8, 8, 8, 8, 8, 8, 8, 8, 8, 8, 8, 8, 8, 8, 8, 8, 8, 8, 8, 8, 8, 8, 8, 8, 8, 8, 8, 8, 8])).toArray) = Lib.len8tab := by kernel_rfl
attribute [local go_sem ↓ high] fold_len

theorem wrap_in (z : Int) (h0 : 0 ≤ z) (h1 : z ≤ 1000) : wrap64 z = z := by unfold wrap64; omega

theorem tab_at (y : Int) (h0 : 0 ≤ y) (h1 : y ≤ 255) (hh : y.toNat < Lib.len8tab.size) : wrap64 (((Lib.len8tab[y.toNat]'hh).toNat : Nat) : Int) = (Lib.bitLen y.toNat : Int) ∧ (Lib.bitLen y.toNat : Int) ≤ 8 := by
  have e : (((Lib.len8tab[y.toNat]'hh).toNat : Nat) : Int) = (Lib.bitLen y.toNat : Int) := by
    rw [← Lib.len8_of y h0 h1]; unfold Lib.len8; rw [ByteArray.getElem?_lt' _ _ hh]; rfl
  have l := Lib.bitLen_le8' y h0 h1
  rw [e]
  exact ⟨wrap_in _ (by omega) (by omega), by omega⟩

set_option maxHeartbeats 2000000 in
set_option maxRecDepth 1000000 in
theorem len64_int (x : Int) (h0 : 0 ≤ x) (h2 : x < 65536) (w : World) :
    Calls Tryd.prog 70 #[.int .u64 x] w fun e w' => e = .returned (.int .i64 (Lib.bitLen x.toNat)) ∧ w' = w := by
  have h1 : x < 4294967296 := by omega
  have hz := Lib.len8tab_size
  have hF := Tryd.func70
  simp only [Tryd.f70, fold_len] at hF
  by_cases h3 : 256 ≤ x
  · go_enter hF, fold_len
    clear hF
    go_wp2
    go_ret
    refine ⟨congrArg Ending.returned (congrArg (Value.int IntKind.i64) ?_), rfl⟩
    have t := tab_at (x / 256) (by omega) (by omega) (by have := Lib.len8tab_size; omega)
    have s := Lib.bitLen_shift8 x.toNat (by omega) (by omega)
    rw [t.1]
    have e : (x / 256).toNat = x.toNat / 256 := by omega
    have t2 := t.2
    rw [e] at t2 ⊢
    exact (wrap_in _ (by omega) (by omega)).trans (by omega)
  · go_enter hF, fold_len
    clear hF
    go_wp2
    go_ret
    refine ⟨congrArg Ending.returned (congrArg (Value.int IntKind.i64) ?_), rfl⟩
    have t := tab_at x (by omega) (by omega) (by have := Lib.len8tab_size; omega)
    rw [t.1]
    exact wrap_in _ (by omega) (by omega)

theorem len64_at (n : Nat) (hn : n < 65536) (w : World) :
    Calls Tryd.prog 70 #[.int .u64 n] w fun e w' => e = .returned (.int .i64 (bitsLen n : Nat)) ∧ w' = w := by
  have h := len64_int n (by omega) (by omega) w
  rwa [Int.toNat_natCast, bitLen_eq n (by omega)] at h

set_option maxRecDepth 100000 in
theorem bitslen_at (n : Nat) (hn : n < 65536) (w : World) :
    Calls Tryd.prog 61 #[.int .u64 n] w fun e w' => e = .returned (.int .i64 (bitsLen n : Nat)) ∧ w' = w := by
  have H := Lib.hid (len64_at n hn w)
  go_enter Tryd.func61, Tryd.ntmps61
  go_wp2_with (go_at_call 70; refine H.out.mono ?_; rintro e w' ⟨rfl, rfl⟩)
  go_ret
  exact ⟨rfl, rfl⟩

set_option maxRecDepth 100000 in
theorem nextPow_at (n : Nat) (hn : n < 65536) (w : World) :
    Calls Tryd.prog 87 #[.int .i64 n] w fun e w' => e = .returned (.int .u64 ((1 <<< bitsLen n : Nat) : Int)) ∧ w' = w := by
  have hk : bitsLen n ≤ 62 := (bitsLen_le_iff n 62).2 (by omega)
  have hp := wrap_two_pow (bitsLen n) hk
  have wr : IntKind.u64.wrap (n : Int) = n := by simp [IntKind.wrap, IntKind.bits, IntKind.signed]; omega
  have H := Lib.hid (bitslen_at n hn w)
  go_enter Tryd.func87, Tryd.ntmps87
  go_wp2_with (go_at_call 61; refine H.out.mono ?_; rintro e w' ⟨rfl, rfl⟩)
  go_ret
  exact ⟨rfl, rfl⟩

set_option maxHeartbeats 2000000 in
set_option maxRecDepth 1000000 in
theorem xornext_at (rb ro X : Nat) (hX : X < 18446744073709551616) (w : World) (hc : w.cell? ⟨rb, ro, none⟩ = some (.int .u64 X)) (hf : w.frozen? ⟨rb, ro, none⟩ = false) :
    Calls Tryd.prog 88 #[.pointer (some ⟨rb, ro, none⟩)] w fun e w' => e = .returned (.int .u64 (xorNextN X : Nat)) ∧ w' = (w.setCell ⟨rb, ro, none⟩ (.int .u64 (xorNextN X : Nat))).drewN 3 := by
  obtain ⟨A, hA⟩ : ∃ A : Nat, A = X ^^^ (X * 8192 % 18446744073709551616) := ⟨_, rfl⟩
  obtain ⟨B, hB⟩ : ∃ B : Nat, B = A ^^^ (A / 128) := ⟨_, rfl⟩
  obtain ⟨C, hC⟩ : ∃ C : Nat, C = B ^^^ (B * 131072 % 18446744073709551616) := ⟨_, rfl⟩
  have lA : A < 18446744073709551616 := by rw [hA]; exact Nat.xor_lt_two_pow (n := 64) (by omega) (by omega)
  have lB : B < 18446744073709551616 := by rw [hB]; exact Nat.xor_lt_two_pow (n := 64) (by omega) (by omega)
  have e1 : bits .xor .u64 (X : Int) (IntKind.u64.wrap ((X : Int) * 8192)) = (A : Int) := by
    rw [IntKind.wrap_u64, show ((X : Int) * 8192 % 18446744073709551616) = ((X * 8192 % 18446744073709551616 : Nat) : Int) by omega, bits_xor_u64_nat _ _ hX (by omega), hA]
  have e2 : bits .xor .u64 (A : Int) ((A : Int) / 128) = (B : Int) := by
    rw [show ((A : Int) / 128) = ((A / 128 : Nat) : Int) by omega, bits_xor_u64_nat _ _ lA (by omega), hB]
  have e3 : bits .xor .u64 (B : Int) (IntKind.u64.wrap ((B : Int) * 131072)) = (C : Int) := by
    rw [IntKind.wrap_u64, show ((B : Int) * 131072 % 18446744073709551616) = ((B * 131072 % 18446744073709551616 : Nat) : Int) by omega, bits_xor_u64_nat _ _ lB (by omega), hC]
  have hv : xorNextN X = C := by unfold xorNextN; simp only []; rw [← hA, ← hB, ← hC]
  rw [hv]
  clear hA hB hC hv
  have hss : ∀ v v', (w.setCell ⟨rb, ro, none⟩ v).setCell ⟨rb, ro, none⟩ v' = w.setCell ⟨rb, ro, none⟩ v' := setCell_setCell w rb ro
  go_enter Tryd.func88, Tryd.ntmps88
  go_wp2
  go_region
  all_goals go_wp2
  all_goals go_region
  all_goals go_wp2
  all_goals go_region
  all_goals go_wp2
  go_ret
  exact ⟨rfl, rfl⟩
end Go.Proofs.YtpamoleocjdjiaaDoor

namespace Go.Proofs.YtpamoleocjdjiaaDoor
open Go.RowKit Lox Go.Sort
set_option linter.unusedVariables false
variable {α : Type} [Inhabited α] {T : TypeId} {rv vl vs : Value} {gl gs n H : Nat} {lt : α → α → Bool} {S : Nat → Prop} {St : World → Array α → Prop}

theorem so_mod_drewN {S : Nat → Prop} {a w : World} (h : Mod S a w) (m : Nat) : Mod S a (w.drewN m) := ⟨h.os, h.tape, h.output, h.size, h.block⟩
theorem so_blk_drewN {w : World} {b : Nat} {T : TypeId} {xs : List Value} (h : Blk w b T xs) (m : Nat) : Blk (w.drewN m) b T xs := h

/-- The list, and the drawing word in a block of its own. -/
structure StB (H : Nat) (S : Nat → Prop) (St : World → Array α → Prop) (w : World) (sb : Nat) (r : UInt64) (d : Array α) (wr : World) : Prop where
  st : St wr d
  blk : Blk wr sb 161 [.int .u64 (r.toNat : Int)]
  mod : Mod (fun k => S k ∨ k = sb) w wr
  far : H ≤ sb

theorem StB.next (h : Srt T rv vl vs gl gs lt n H S St) {w wr : World} {sb : Nat} {r : UInt64} {d : Array α} (s : StB H S St w sb r d wr) :
    Calls Tryd.prog 88 #[.pointer (some ⟨sb, 0, none⟩)] wr fun e w' => e = .returned (.int .u64 ((xorNext r).toNat : Int)) ∧ Okd St w' ∧ Hid (StB H S St w sb (xorNext r) d w') := by
  have hc := s.blk.at (i := 0) rfl
  have hf := s.blk.frozen 0
  refine (xornext_at sb 0 r.toNat r.toNat_lt wr hc hf).mono fun e w' ⟨he, hw⟩ => ⟨by rw [he, xorNext_toNat], ?_⟩
  rw [hw, ← xorNext_toNat]
  have m1 : Mod (fun k => k = sb) wr ((wr.setCell ⟨sb, 0, none⟩ (.int .u64 ((xorNext r).toNat : Int))).drewN 3) := so_mod_drewN ((Mod.refl (fun k => k = sb) _).set (p := ⟨sb, 0, none⟩) (.inl rfl) _) 3
  have hst := h.keep _ _ _ ⟨m1.os, m1.tape, m1.output, m1.size, fun k hk hn => m1.block k hk (fun e => hn (by rw [e]; exact s.far))⟩ s.st
  exact ⟨⟨_, hst⟩, hst, so_blk_drewN (s.blk.set 0 _) 3, s.mod.trans ⟨m1.os, m1.tape, m1.output, m1.size, fun k hk hn => m1.block k hk (fun e => hn (.inr e))⟩, s.far⟩

theorem StB.swap (h : Srt T rv vl vs gl gs lt n H S St) {w wr : World} {sb : Nat} {r : UInt64} {d : Array α} (s : StB H S St w sb r d wr) (i j : Nat) (hi : i < n) (hj : j < n) :
    Calls Tryd.prog gs #[vs, .int .i64 i, .int .i64 j] wr fun e w' => e = .returned (.tuple #[]) ∧ Hid (StB H S St w sb r (swp d i j) w') :=
  (h.swap wr d i j s.st hi hj).mono fun e w' ⟨he, hs, hm⟩ => ⟨he, hs, s.blk.mod hm (fun hS => Nat.not_le_of_lt (h.far _ hS) s.far), s.mod.trans ⟨hm.os, hm.tape, hm.output, hm.size, fun k hk hn => hm.block k hk (fun e => hn (.inl e))⟩, s.far⟩

omit [Inhabited α] in
theorem StB.done {w wr : World} {r : UInt64} {d : Array α} (s : StB H S St w w.heap.size r d wr) : AtS S St w d wr :=
  ⟨s.st, s.mod.os, s.mod.tape, s.mod.output, s.mod.size, fun k hk hn => s.mod.block k hk (by rintro (e | e); exact hn e; omega)⟩

set_option maxHeartbeats 4000000 in
set_option maxRecDepth 1000000 in
theorem break_go (h : Srt T rv vl vs gl gs lt n H S St) (a L : Nat) (d : Array α) (w : World) (hH : St w d) (hb : a + L ≤ n) (h8 : 8 ≤ L) (hL : L < 65536) :
    Calls Tryd.prog 73 #[.iface T rv, .int .i64 a, .int .i64 ((a + L : Nat) : Int)] w fun e w' => e = .returned (.tuple #[]) ∧ AtS S St w (breakPatterns d a (a + L)) w' := by
  have mS := h.mS
  have eS := h.enterS
  have hsz := h.most
  rw [breakPatterns_eq d a L h8]
  obtain ⟨M, hM⟩ : ∃ M : Nat, M = 1 <<< bitsLen L := ⟨_, rfl⟩
  have hM1 : 1 ≤ M := by rw [hM, Nat.one_shiftLeft]; exact Nat.two_pow_pos _
  have hM2 : M ≤ 2 * L := by rw [hM, Nat.one_shiftLeft]; exact two_pow_bitsLen_le (by omega)
  have hNP := nextPow_at L hL
  rw [← hM] at hNP
  have HNP := Lib.hid hNP
  rw [← hM]
  clear hM hNP
  have hLz : ((a : Int) + (L : Int) - (a : Int)) = (L : Int) := by omega
  have h8z : (8 : Int) ≤ (L : Int) := by omega
  have wr0 : IntKind.u64.wrap (L : Int) = L := by simp [IntKind.wrap, IntKind.bits, IntKind.signed]; omega
  have HS : Hid (StB H S St w w.heap.size (UInt64.ofNat L) d (w.alloc (.cells #[.int .u64 (L : Int)] 161))) := by
    have e : (UInt64.ofNat L).toNat = L := by simp; omega
    refine ⟨h.keep0 ((Mod.refl _ _).alloc _) hH, ?_, (Mod.refl _ _).alloc _, h.low _ _ hH⟩
    rw [e]
    exact Blk.new' w #[.int .u64 (L : Int)] 161
  have NX := Lib.hid (fun (wr : World) (r : UInt64) (dk : Array α) (s : StB H S St w w.heap.size r dk wr) => s.next h)
  have SX := Lib.hid (fun (wr : World) (r : UInt64) (dk : Array α) (s : StB H S St w w.heap.size r dk wr) (i j : Nat) => s.swap h i j)
  clear h hH
  go_enter Tryd.func73, Tryd.ntmps73
  go_wp2_with (go_at_call 87; refine (HNP.out _).mono ?_; rintro e w' ⟨rfl, rfl⟩)
  go_loopg [9] 3 (fun g1 vi wr => ∃ (t : Nat) (r : UInt64) (dk : Array α), vi = .int .i64 ((a : Int) + (L : Int) / 4 * 2 - 1 + (t : Int)) ∧ t ≤ 3 ∧ 3 - t ≤ g1 ∧ Hid (StB H S St w w.heap.size r dk wr) ∧ Hid (bpRest a L M (a + L / 4 * 2 - 1) (3 - t) t (r, dk) = bpRest a L M (a + L / 4 * 2 - 1) 3 0 (UInt64.ofNat L, d)))
  case atStart => exact ⟨0, UInt64.ofNat L, d, by simp, by omega, by omega, HS, rfl⟩
  case round =>
    obtain ⟨t, r, dk, rfl, ht, hg1, HB, HR⟩ := hrel
    by_cases ht3 : t < 3
    · have hle : (a : Int) + (L : Int) / 4 * 2 - 1 + (t : Int) ≤ (a : Int) + (L : Int) / 4 * 2 + 1 := by omega
      obtain ⟨R', hR'⟩ : ∃ R' : Nat, R' = (xorNext r).toNat := ⟨_, rfl⟩
      have lR' : R' < 18446744073709551616 := by rw [hR']; exact (xorNext r).toNat_lt
      obtain ⟨O, hO⟩ : ∃ O : Nat, O = R' &&& (M - 1) := ⟨_, rfl⟩
      have lO : O ≤ M - 1 := by rw [hO]; exact Nat.and_le_right
      have eAnd : bits .and .u64 (R' : Int) ((M : Int) - 1) = (O : Int) := by
        rw [show ((M : Int) - 1) = ((M - 1 : Nat) : Int) by omega, bits_and_u64_nat _ _ lR' (by omega), hO]
      have hN := NX.out _ _ _ HB.out
      rw [← hR'] at hN
      have HN := Lib.hid hN
      have HO : Hid (O = (xorNext r).toNat &&& (M - 1)) := by show _ = _; rw [hO, hR']
      clear hO hR' hN
      by_cases hLO : L ≤ O
      · have hLOz : (L : Int) ≤ (O : Int) := by omega
        have SX2 : Hid (∀ w2, Hid (StB H S St w w.heap.size (xorNext r) dk w2) → Calls Tryd.prog gs #[vs, .int .i64 ((a : Int) + (L : Int) / 4 * 2 - 1 + (t : Int)), .int .i64 ((a : Int) + ((O : Int) - (L : Int)))] w2 fun e w' => e = .returned (.tuple #[]) ∧ Hid (StB H S St w w.heap.size (xorNext r) (swp dk (a + L / 4 * 2 - 1 + t) (a + (O - L))) w')) := by
          intro w2 hw2
          have hs := SX.out w2 _ _ hw2.out (a + L / 4 * 2 - 1 + t) (a + (O - L)) (by omega) (by omega)
          rwa [show ((a + L / 4 * 2 - 1 + t : Nat) : Int) = (a : Int) + (L : Int) / 4 * 2 - 1 + (t : Int) by omega, show ((a + (O - L) : Nat) : Int) = (a : Int) + ((O : Int) - (L : Int)) by omega] at hs
        go_wp2_with (first | (go_at_call 88; refine HN.out.mono ?_; rintro e w2 ⟨rfl, r2, H2⟩) | (go_at_fn gs; refine (SX2.out _ H2).mono ?_; rintro e w3 ⟨rfl, H3⟩))
        go_roundg (3 - (t + 1))
        case measure => omega
        case rel => exact ⟨t + 1, xorNext r, swp dk (a + L / 4 * 2 - 1 + t) (a + (O - L)), by congr 1; push_cast; omega, by omega, Nat.le_refl _, H3,
          (show Hid _ from by rw [← HR.out, bp_step a L M _ t r dk (O - L) ht3 (by rw [← HO.out, if_pos (by omega)])]; exact rfl)⟩
      · have hLOz : ¬ (L : Int) ≤ (O : Int) := by omega
        have SX2 : Hid (∀ w2, Hid (StB H S St w w.heap.size (xorNext r) dk w2) → Calls Tryd.prog gs #[vs, .int .i64 ((a : Int) + (L : Int) / 4 * 2 - 1 + (t : Int)), .int .i64 ((a : Int) + (O : Int))] w2 fun e w' => e = .returned (.tuple #[]) ∧ Hid (StB H S St w w.heap.size (xorNext r) (swp dk (a + L / 4 * 2 - 1 + t) (a + O)) w')) := by
          intro w2 hw2
          have hs := SX.out w2 _ _ hw2.out (a + L / 4 * 2 - 1 + t) (a + O) (by omega) (by omega)
          rwa [show ((a + L / 4 * 2 - 1 + t : Nat) : Int) = (a : Int) + (L : Int) / 4 * 2 - 1 + (t : Int) by omega, show ((a + O : Nat) : Int) = (a : Int) + (O : Int) by omega] at hs
        go_wp2_with (first | (go_at_call 88; refine HN.out.mono ?_; rintro e w2 ⟨rfl, r2, H2⟩) | (go_at_fn gs; refine (SX2.out _ H2).mono ?_; rintro e w3 ⟨rfl, H3⟩))
        go_roundg (3 - (t + 1))
        case measure => omega
        case rel => exact ⟨t + 1, xorNext r, swp dk (a + L / 4 * 2 - 1 + t) (a + O), by congr 1; push_cast; omega, by omega, Nat.le_refl _, H3,
          (show Hid _ from by rw [← HR.out, bp_step a L M _ t r dk O ht3 (by rw [← HO.out, if_neg (by omega)])]; exact rfl)⟩
    · obtain rfl : t = 3 := by omega
      have hle : ¬ ((a : Int) + (L : Int) / 4 * 2 - 1 + ((3 : Nat) : Int) ≤ (a : Int) + (L : Int) / 4 * 2 + 1) := by omega
      go_wp2
      go_end0
      refine ⟨rfl, ?_⟩
      rw [← HR.out]
      exact HB.out.done

theorem break_at (h : Srt T rv vl vs gl gs lt n H S St) (a b : Nat) (d : Array α) (w : World) (hH : St w d) (hb : b ≤ n) (h8 : 8 ≤ b - a) (hL : n < 65536) :
    Calls Tryd.prog 73 #[.iface T rv, .int .i64 a, .int .i64 b] w fun e w' => e = .returned (.tuple #[]) ∧ AtS S St w (breakPatterns d a b) w' := by
  obtain ⟨L, rfl⟩ : ∃ L, b = a + L := ⟨b - a, by omega⟩
  exact break_go h a L d w hH hb (by omega) (by omega)
end Go.Proofs.YtpamoleocjdjiaaDoor

namespace Go.Proofs.YtpamoleocjdjiaaDoor
open Go.RowKit Lox Go.Sort
set_option linter.unusedVariables false
variable {α : Type} [Inhabited α] {T : TypeId} {rv vl vs : Value} {gl gs n H : Nat} {lt : α → α → Bool} {S : Nat → Prop} {St : World → Array α → Prop}

/-- 'Less' and 'Swap' at (j, j - 1). -/
theorem less_dn (h : Srt T rv vl vs gl gs lt n H S St) {w : World} (dk : Array α) (wr : World) (j : Nat) (v : Bool) (hA : AtS S St w dk wr) (h1 : 1 ≤ j) (hj : j < n) (hv : lt dk[j]! dk[j - 1]! = v) :
    Calls Tryd.prog gl #[vl, .int .i64 j, .int .i64 ((j : Int) - 1)] wr fun e w' => e = .returned (.bool v) ∧ Okd St w' ∧ Hid (AtS S St w dk w') := by
  have := less_at h dk wr j (j - 1) v hA hj (by omega) (by omega) hv
  rwa [show ((j - 1 : Nat) : Int) = (j : Int) - 1 by omega] at this

theorem swap_dn (h : Srt T rv vl vs gl gs lt n H S St) {w : World} (dk : Array α) (wr : World) (j : Nat) (hA : AtS S St w dk wr) (h1 : 1 ≤ j) (hj : j < n) :
    Calls Tryd.prog gs #[vs, .int .i64 j, .int .i64 ((j : Int) - 1)] wr fun e w' => e = .returned (.tuple #[]) ∧ Okd St w' ∧ Hid (AtS S St w (swp dk j (j - 1)) w') := by
  have := swap_at h dk wr j (j - 1) hA hj (by omega)
  rwa [show ((j - 1 : Nat) : Int) = (j : Int) - 1 by omega] at this

set_option maxHeartbeats 12800000 in
set_option maxRecDepth 1000000 in
theorem partial_at (h : Srt T rv vl vs gl gs lt n H S St) (a b : Nat) (d : Array α) (w : World) (hH : St w d) (hab : a < b) (hb : b ≤ n) :
    Calls Tryd.prog 76 #[.iface T rv, .int .i64 a, .int .i64 b] w fun e w' => e = .returned (.bool (Sort.partialInsertionSort lt d a b).2) ∧ AtS S St w (Sort.partialInsertionSort lt d a b).1 w' := by
  have mL := h.mL
  have mS := h.mS
  have eL := h.enterL
  have eS := h.enterS
  have hsz := h.most
  have LC := Lib.hid (less_dn h (w := w))
  have SC := Lib.hid (swap_dn h (w := w))
  have HS : Hid (AtS S St w d w) := ⟨hH, Mod.refl _ _⟩
  clear h hH
  go_enter Tryd.func76, Tryd.ntmps76
  go_wp2
  go_loopg [7, 8] 5 (fun g1 vi vs wr => ∃ (i s : Nat) (dk : Array α), vi = .int .i64 i ∧ vs = .int .i64 s ∧ s ≤ 5 ∧ 5 - s ≤ g1 ∧ a < i ∧ i ≤ b ∧ Hid (AtS S St w dk wr) ∧ Hid (partialIns lt a b (5 - s) i dk = partialIns lt a b 5 (a + 1) d))
  case atStart => exact ⟨a + 1, 0, d, by go_num, rfl, by omega, by omega, by omega, by omega, HS, rfl⟩
  case round =>
    obtain ⟨i, s, dk, rfl, rfl, hs5, hg1, hai, hib, HA, HO⟩ := hrel
    by_cases hs : s < 5
    · have hsz5 : (s : Int) < 5 := by omega
      go_wp2
      go_loopg [7] (b - i) (fun g2 vi wr2 => ∃ kx : Nat, vi = .int .i64 kx ∧ i ≤ kx ∧ kx ≤ b ∧ b - kx ≤ g2 ∧ Hid (AtS S St w dk wr2) ∧ Hid (scanSorted lt dk b kx = scanSorted lt dk b i))
      case atStart => exact ⟨i, rfl, Nat.le_refl _, hib, Nat.le_refl _, HA, rfl⟩
      case round =>
        obtain ⟨kx, rfl, hik, hkb, hg2, HB, HSc⟩ := hrel
        have r3 : Okd St wr := ⟨_, HB.out.1⟩
        by_cases hkb' : kx < b
        · have hkz : (kx : Int) < (b : Int) := by omega
          cases hlv : lt dk[kx]! dk[kx - 1]! with
          | false =>
            go_wp2_with (go_at_fn gl; refine (LC.out dk _ kx false HB.out (by omega) (by omega) hlv).mono ?_; rintro e w' ⟨rfl, r1, HC⟩)
            go_roundg (b - (kx + 1))
            case measure => omega
            case rel => exact ⟨kx + 1, by go_num, by omega, by omega, Nat.le_refl _, HC, (show Hid _ from by rw [← HSc.out, scanSorted_go lt dk b kx hkb' hlv]; exact rfl)⟩
          | true =>
            have HK : Hid (scanSorted lt dk b i = kx) := by show _ = _; rw [← HSc.out, scanSorted_stop lt dk b kx (Or.inr hlv)]
            have hkne : ((kx : Int) == (b : Int)) = false := beq_eq_false_iff_ne.2 (by omega)
            by_cases h50 : b - a < 50
            · have h50z : (b : Int) - (a : Int) < 50 := by omega
              go_wp2_with (go_at_fn gl; refine (LC.out dk _ kx true HB.out (by omega) (by omega) hlv).mono ?_; rintro e w' ⟨rfl, r1, HC⟩)
              have hv : Sort.partialInsertionSort lt d a b = (dk, false) := by unfold Sort.partialInsertionSort; rw [← HO.out, pi_short lt a b s i dk hs (by rw [HK.out]; omega) h50]
              rw [hv]
              go_ret
              exact ⟨rfl, HC.out⟩
            · have h50z : ¬ ((b : Int) - (a : Int) < 50) := by omega
              by_cases hka : kx - a ≥ 2
              · have hkaz : (2 : Int) ≤ (kx : Int) - (a : Int) := by omega
                go_wp2_with (first | (go_at_fn gl; refine (LC.out dk _ kx true HB.out (by omega) (by omega) hlv).mono ?_; rintro e w' ⟨rfl, r1, HC⟩) | (go_at_fn gs; refine (SC.out dk _ kx HC.out (by omega) (by omega)).mono ?_; rintro e w' ⟨rfl, r2, HE⟩))
                go_loopg [9] (kx - 1) (fun g3 vj wr3 => ∃ (j : Nat) (dj : Array α), vj = .int .i64 j ∧ j ≤ kx - 1 ∧ j ≤ g3 ∧ Hid (AtS S St w dj wr3) ∧ Hid (shiftDown lt j dj = shiftDown lt (kx - 1) (swp dk kx (kx - 1))))
                case atStart => exact ⟨kx - 1, (swp dk kx (kx - 1)), by congr 1; omega, Nat.le_refl _, Nat.le_refl _, HE, rfl⟩
                case round =>
                  obtain ⟨j, dj, rfl, hjk, hg3, HF, HDe⟩ := hrel
                  have r6 : Okd St wr := ⟨_, HF.out.1⟩
                  by_cases hj1 : 1 ≤ j
                  · have hj1z : (1 : Int) ≤ (j : Int) := by omega
                    cases hlv2 : lt dj[j]! dj[j - 1]! with
                    | true =>
                      go_wp2_with (first | (go_at_fn gl; refine (LC.out dj _ j true HF.out (by omega) (by omega) hlv2).mono ?_; rintro e w' ⟨rfl, r1, HG⟩) | (go_at_fn gs; refine (SC.out dj _ j HG.out (by omega) (by omega)).mono ?_; rintro e w' ⟨rfl, r2, HI⟩))
                      go_roundg (j - 1)
                      case measure => omega
                      case rel => exact ⟨j - 1, swp dj j (j - 1), by congr 1; omega, by omega, Nat.le_refl _, HI, (show Hid _ from by rw [← HDe.out, shiftDown_go lt j dj hj1 hlv2]; exact rfl)⟩
                    | false =>
                      have HDn : Hid (fixDown lt a kx (swp dk kx (kx - 1)) = dj) := by show _ = _; unfold fixDown; rw [if_pos hka, ← HDe.out, shiftDown_stop lt j dj (Or.inr hlv2)]
                      by_cases hbk : b - kx ≥ 2
                      · have hbkz : (2 : Int) ≤ (b : Int) - (kx : Int) := by omega
                        go_wp2_with (go_at_fn gl; refine (LC.out dj _ j false HF.out (by omega) (by omega) hlv2).mono ?_; rintro e w' ⟨rfl, r1, HG⟩)
                        go_loopg [10] (b - (kx + 1)) (fun g4 vj wr4 => ∃ (ju : Nat) (du : Array α), vj = .int .i64 ju ∧ kx + 1 ≤ ju ∧ ju ≤ b ∧ b - ju ≤ g4 ∧ Hid (AtS S St w du wr4) ∧ Hid (shiftUp lt b ju du = shiftUp lt b (kx + 1) dj))
                        case atStart => exact ⟨kx + 1, dj, by go_num, Nat.le_refl _, by omega, Nat.le_refl _, HG, rfl⟩
                        case round =>
                          obtain ⟨ju, du, rfl, hkj, hjb, hg4, HU, HUe⟩ := hrel
                          have r5 : Okd St wr := ⟨_, HU.out.1⟩
                          by_cases hjb' : ju < b
                          · have hjz : (ju : Int) < (b : Int) := by omega
                            cases hlv3 : lt du[ju]! du[ju - 1]! with
                            | true =>
                              go_wp2_with (first | (go_at_fn gl; refine (LC.out du _ ju true HU.out (by omega) (by omega) hlv3).mono ?_; rintro e w' ⟨rfl, r1, HV⟩) | (go_at_fn gs; refine (SC.out du _ ju HV.out (by omega) (by omega)).mono ?_; rintro e w' ⟨rfl, r2, HW⟩))
                              go_roundg (b - (ju + 1))
                              case measure => omega
                              case rel => exact ⟨ju + 1, swp du ju (ju - 1), by go_num, by omega, by omega, Nat.le_refl _, HW, (show Hid _ from by rw [← HUe.out, shiftUp_go lt b ju du hjb' hlv3]; exact rfl)⟩
                            | false =>
                              go_wp2_with (go_at_fn gl; refine (LC.out du _ ju false HU.out (by omega) (by omega) hlv3).mono ?_; rintro e w' ⟨rfl, r1, HV⟩)
                              go_roundg (5 - (s + 1))
                              case measure => omega
                              case rel => exact ⟨kx, s + 1, du, rfl, by go_num, by omega, Nat.le_refl _, by omega, by omega, HV, (show Hid _ from by rw [← HO.out, pi_go lt a b s i kx dk hs HK.out (by omega) h50, HDn.out, show fixUp lt b kx dj = du from by unfold fixUp; rw [if_pos hbk, ← HUe.out, shiftUp_stop lt b ju du (Or.inr hlv3)]]; exact rfl)⟩
                          · have hjz : ¬ (ju : Int) < (b : Int) := by omega
                            go_wp2
                            go_roundg (5 - (s + 1))
                            case measure => omega
                            case rel => exact ⟨kx, s + 1, du, rfl, by go_num, by omega, Nat.le_refl _, by omega, by omega, HU, (show Hid _ from by rw [← HO.out, pi_go lt a b s i kx dk hs HK.out (by omega) h50, HDn.out, show fixUp lt b kx dj = du from by unfold fixUp; rw [if_pos hbk, ← HUe.out, shiftUp_stop lt b ju du (Or.inl hjb')]]; exact rfl)⟩
                      · have hbkz : ¬ (2 : Int) ≤ (b : Int) - (kx : Int) := by omega
                        go_wp2_with (go_at_fn gl; refine (LC.out dj _ j false HF.out (by omega) (by omega) hlv2).mono ?_; rintro e w' ⟨rfl, r1, HG⟩)
                        go_roundg (5 - (s + 1))
                        case measure => omega
                        case rel => exact ⟨kx, s + 1, dj, rfl, by go_num, by omega, Nat.le_refl _, by omega, by omega, HG, (show Hid _ from by rw [← HO.out, pi_go lt a b s i kx dk hs HK.out (by omega) h50, HDn.out, show fixUp lt b kx dj = dj from by unfold fixUp; rw [if_neg hbk]]; exact rfl)⟩
                  · have hj1z : ¬ (1 : Int) ≤ (j : Int) := by omega
                    have HDn : Hid (fixDown lt a kx (swp dk kx (kx - 1)) = dj) := by show _ = _; unfold fixDown; rw [if_pos hka, ← HDe.out, shiftDown_stop lt j dj (Or.inl (by omega))]
                    by_cases hbk : b - kx ≥ 2
                    · have hbkz : (2 : Int) ≤ (b : Int) - (kx : Int) := by omega
                      go_wp2
                      go_loopg [10] (b - (kx + 1)) (fun g4 vj wr4 => ∃ (ju : Nat) (du : Array α), vj = .int .i64 ju ∧ kx + 1 ≤ ju ∧ ju ≤ b ∧ b - ju ≤ g4 ∧ Hid (AtS S St w du wr4) ∧ Hid (shiftUp lt b ju du = shiftUp lt b (kx + 1) dj))
                      case atStart => exact ⟨kx + 1, dj, by go_num, Nat.le_refl _, by omega, Nat.le_refl _, HF, rfl⟩
                      case round =>
                        obtain ⟨ju, du, rfl, hkj, hjb, hg4, HU, HUe⟩ := hrel
                        have r5 : Okd St wr := ⟨_, HU.out.1⟩
                        by_cases hjb' : ju < b
                        · have hjz : (ju : Int) < (b : Int) := by omega
                          cases hlv3 : lt du[ju]! du[ju - 1]! with
                          | true =>
                            go_wp2_with (first | (go_at_fn gl; refine (LC.out du _ ju true HU.out (by omega) (by omega) hlv3).mono ?_; rintro e w' ⟨rfl, r1, HV⟩) | (go_at_fn gs; refine (SC.out du _ ju HV.out (by omega) (by omega)).mono ?_; rintro e w' ⟨rfl, r2, HW⟩))
                            go_roundg (b - (ju + 1))
                            case measure => omega
                            case rel => exact ⟨ju + 1, swp du ju (ju - 1), by go_num, by omega, by omega, Nat.le_refl _, HW, (show Hid _ from by rw [← HUe.out, shiftUp_go lt b ju du hjb' hlv3]; exact rfl)⟩
                          | false =>
                            go_wp2_with (go_at_fn gl; refine (LC.out du _ ju false HU.out (by omega) (by omega) hlv3).mono ?_; rintro e w' ⟨rfl, r1, HV⟩)
                            go_roundg (5 - (s + 1))
                            case measure => omega
                            case rel => exact ⟨kx, s + 1, du, rfl, by go_num, by omega, Nat.le_refl _, by omega, by omega, HV, (show Hid _ from by rw [← HO.out, pi_go lt a b s i kx dk hs HK.out (by omega) h50, HDn.out, show fixUp lt b kx dj = du from by unfold fixUp; rw [if_pos hbk, ← HUe.out, shiftUp_stop lt b ju du (Or.inr hlv3)]]; exact rfl)⟩
                        · have hjz : ¬ (ju : Int) < (b : Int) := by omega
                          go_wp2
                          go_roundg (5 - (s + 1))
                          case measure => omega
                          case rel => exact ⟨kx, s + 1, du, rfl, by go_num, by omega, Nat.le_refl _, by omega, by omega, HU, (show Hid _ from by rw [← HO.out, pi_go lt a b s i kx dk hs HK.out (by omega) h50, HDn.out, show fixUp lt b kx dj = du from by unfold fixUp; rw [if_pos hbk, ← HUe.out, shiftUp_stop lt b ju du (Or.inl hjb')]]; exact rfl)⟩
                    · have hbkz : ¬ (2 : Int) ≤ (b : Int) - (kx : Int) := by omega
                      go_wp2
                      go_roundg (5 - (s + 1))
                      case measure => omega
                      case rel => exact ⟨kx, s + 1, dj, rfl, by go_num, by omega, Nat.le_refl _, by omega, by omega, HF, (show Hid _ from by rw [← HO.out, pi_go lt a b s i kx dk hs HK.out (by omega) h50, HDn.out, show fixUp lt b kx dj = dj from by unfold fixUp; rw [if_neg hbk]]; exact rfl)⟩
              · have hkaz : ¬ (2 : Int) ≤ (kx : Int) - (a : Int) := by omega
                have HDn : Hid (fixDown lt a kx (swp dk kx (kx - 1)) = (swp dk kx (kx - 1))) := by show _ = _; unfold fixDown; rw [if_neg hka]
                by_cases hbk : b - kx ≥ 2
                · have hbkz : (2 : Int) ≤ (b : Int) - (kx : Int) := by omega
                  go_wp2_with (first | (go_at_fn gl; refine (LC.out dk _ kx true HB.out (by omega) (by omega) hlv).mono ?_; rintro e w' ⟨rfl, r1, HC⟩) | (go_at_fn gs; refine (SC.out dk _ kx HC.out (by omega) (by omega)).mono ?_; rintro e w' ⟨rfl, r2, HE⟩))
                  go_loopg [10] (b - (kx + 1)) (fun g4 vj wr4 => ∃ (ju : Nat) (du : Array α), vj = .int .i64 ju ∧ kx + 1 ≤ ju ∧ ju ≤ b ∧ b - ju ≤ g4 ∧ Hid (AtS S St w du wr4) ∧ Hid (shiftUp lt b ju du = shiftUp lt b (kx + 1) (swp dk kx (kx - 1))))
                  case atStart => exact ⟨kx + 1, (swp dk kx (kx - 1)), by go_num, Nat.le_refl _, by omega, Nat.le_refl _, HE, rfl⟩
                  case round =>
                    obtain ⟨ju, du, rfl, hkj, hjb, hg4, HU, HUe⟩ := hrel
                    have r5 : Okd St wr := ⟨_, HU.out.1⟩
                    by_cases hjb' : ju < b
                    · have hjz : (ju : Int) < (b : Int) := by omega
                      cases hlv3 : lt du[ju]! du[ju - 1]! with
                      | true =>
                        go_wp2_with (first | (go_at_fn gl; refine (LC.out du _ ju true HU.out (by omega) (by omega) hlv3).mono ?_; rintro e w' ⟨rfl, r1, HV⟩) | (go_at_fn gs; refine (SC.out du _ ju HV.out (by omega) (by omega)).mono ?_; rintro e w' ⟨rfl, r2, HW⟩))
                        go_roundg (b - (ju + 1))
                        case measure => omega
                        case rel => exact ⟨ju + 1, swp du ju (ju - 1), by go_num, by omega, by omega, Nat.le_refl _, HW, (show Hid _ from by rw [← HUe.out, shiftUp_go lt b ju du hjb' hlv3]; exact rfl)⟩
                      | false =>
                        go_wp2_with (go_at_fn gl; refine (LC.out du _ ju false HU.out (by omega) (by omega) hlv3).mono ?_; rintro e w' ⟨rfl, r1, HV⟩)
                        go_roundg (5 - (s + 1))
                        case measure => omega
                        case rel => exact ⟨kx, s + 1, du, rfl, by go_num, by omega, Nat.le_refl _, by omega, by omega, HV, (show Hid _ from by rw [← HO.out, pi_go lt a b s i kx dk hs HK.out (by omega) h50, HDn.out, show fixUp lt b kx (swp dk kx (kx - 1)) = du from by unfold fixUp; rw [if_pos hbk, ← HUe.out, shiftUp_stop lt b ju du (Or.inr hlv3)]]; exact rfl)⟩
                    · have hjz : ¬ (ju : Int) < (b : Int) := by omega
                      go_wp2
                      go_roundg (5 - (s + 1))
                      case measure => omega
                      case rel => exact ⟨kx, s + 1, du, rfl, by go_num, by omega, Nat.le_refl _, by omega, by omega, HU, (show Hid _ from by rw [← HO.out, pi_go lt a b s i kx dk hs HK.out (by omega) h50, HDn.out, show fixUp lt b kx (swp dk kx (kx - 1)) = du from by unfold fixUp; rw [if_pos hbk, ← HUe.out, shiftUp_stop lt b ju du (Or.inl hjb')]]; exact rfl)⟩
                · have hbkz : ¬ (2 : Int) ≤ (b : Int) - (kx : Int) := by omega
                  exfalso; omega
        · obtain rfl : kx = b := by omega
          have hkz : ¬ (kx : Int) < (kx : Int) := by omega
          go_wp2
          have hv : Sort.partialInsertionSort lt d a kx = (dk, true) := by unfold Sort.partialInsertionSort; rw [← HO.out, pi_true lt a kx s i dk hs (by rw [← HSc.out, scanSorted_stop lt dk kx kx (Or.inl (by omega))])]
          rw [hv]
          go_ret
          exact ⟨rfl, HB.out⟩
    · obtain rfl : s = 5 := by omega
      go_wp2
      have hv : Sort.partialInsertionSort lt d a b = (dk, false) := by unfold Sort.partialInsertionSort; rw [← HO.out, pi_end]
      rw [hv]
      go_ret
      exact ⟨rfl, HA.out⟩
end Go.Proofs.YtpamoleocjdjiaaDoor
