/- Steps of a proof, one behind another: sort.Sort over ANY receiver: the walk of sort.pdqsort, and of sort.Sort (at most 65535 elements). sort.Sort(sort.Reverse(k)) over a keeper: what the order is; what is asked of the receiver holds. (Printed by wip/gen_ws.py.) sort.Sort(sort.Reverse(k)) over a keeper within a distance: what the order is; what is asked of the receiver holds. (Printed by wip/gen_ws.py.) The build of a k-d tree as a plain function: Partition, the picks, the tree. The array of points that a k-d tree is built of: Len and Swap over a window of it. Conditions: as each theorem says. -/
import Derived.Test.YtmeooadgdagiiaaMs4
import Derived.Sort.Walk13
import Derived.Test.YtmeooadgdagiiaaRows

namespace Go.Proofs.Ytmeooadgdagiiaa
open Go.RowKit Lox Go.Sort
set_option linter.unusedVariables false
variable {α : Type} [Inhabited α] {T : TypeId} {rv vl vs : Value} {gl gs n H : Nat} {lt : α → α → Bool} {S : Nat → Prop} {St : World → Array α → Prop}

omit [Inhabited α] in
theorem AtS.step {w w1 w2 : World} {d d' : Array α} (h : AtS S St w d w1) (k : AtS S St w1 d' w2) : AtS S St w d' w2 := ⟨k.1, h.2.trans k.2⟩

set_option maxHeartbeats 12800000 in
set_option maxRecDepth 1000000 in
theorem pdq_at (h : Srt T rv vl vs gl gs lt n H S St) (hO : SWO lt) (hn : n < 65536) :
    ∀ (N a b limit : Nat) (d : Array α) (w : World), b - a < N → St w d → a ≤ b → b ≤ n → limit < 4611686018427387904 → Below lt a b d →
    Calls Try.prog 80 #[.iface T rv, .int .i64 a, .int .i64 b, .int .i64 limit] w fun e w' => e = .returned (.tuple #[]) ∧ AtS S St w (pdq lt d a b limit true true) w' := by
  have mL := h.mL
  have mS := h.mS
  have eL := h.enterL
  have eS := h.enterS
  have LC := Lib.hid (fun w => less_at h (w := w))
  have HD := Lib.hid h
  have SZ : Hid (∀ (w w' : World) (dk : Array α), AtS S St w dk w' → dk.size = n) := fun w w' dk hA => h.size _ _ hA.1
  clear h
  intro N
  induction N with
  | zero => intro _ _ _ _ _ h; exact absurd h (Nat.not_lt_zero _)
  | succ N ih =>
    intro a b limit d w hN hH hab hb hlimit hBel0
    have hd0 : d.size = n := HD.out.size _ _ hH
    have IH := Lib.hid ih
    clear ih
    have HS : Hid (AtS S St w d w) := ⟨hH, Mod.refl _ _⟩
    clear hH
    go_enter Try.func80, Try.ntmps80
    go_wp2
    go_loopg [1, 2, 3, 8, 9] (b - a) (fun k s1 s2 s3 s8 s9 wr => ∃ (a' b' lim : Nat) (wb wp : Bool) (dk : Array α), s1 = .int .i64 a' ∧ s2 = .int .i64 b' ∧ s3 = .int .i64 lim ∧ s8 = .bool wb ∧ s9 = .bool wp ∧
      a' ≤ b' ∧ b' ≤ n ∧ b' - a' ≤ k ∧ k ≤ b - a ∧ lim ≤ limit ∧ Hid (Below lt a' b' dk) ∧ Hid (AtS S St w dk wr) ∧ Hid (pdq lt dk a' b' lim wb wp = pdq lt d a b limit true true))
    case atStart => exact ⟨a, b, limit, true, true, d, rfl, rfl, rfl, rfl, rfl, hab, hb, Nat.le_refl _, Nat.le_refl _, Nat.le_refl _, hBel0, HS, rfl⟩
    case round =>
      obtain ⟨a', b', lim, wb, wp, dk, rfl, rfl, rfl, rfl, rfl, hab', hb', hk, hkN, hlim, hBel, HA, A⟩ := hrel
      have hds : dk.size = n := SZ.out _ _ _ HA.out
      by_cases h12 : b' - a' ≤ 12
      · have h12z : (b' : Int) - (a' : Int) ≤ 12 := by omega
        have hc := Lib.hid (insertion_at HD.out a' b' dk wr HA.out.1 hab' hb')
        go_wp2_with (go_at_call 88; refine hc.out.mono ?_; rintro e w1 ⟨rfl, hw1⟩)
        (try simp only [Exit.inBlock, Exit.then]); refine bodyPost_ret (results_none rfl _ _ _) rfl ?_
        refine ⟨rfl, ?_⟩
        rw [← A.out, pdq_small h12]
        exact HA.out.step hw1
      · have h12z : ¬ ((b' : Int) - (a' : Int) ≤ 12) := by omega
        by_cases hl0 : lim = 0
        · subst hl0
          have hc := Lib.hid (heap_at HD.out a' b' dk wr HA.out.1 (by omega) hb')
          go_wp2_with (go_at_call 89; refine hc.out.mono ?_; rintro e w1 ⟨rfl, hw1⟩)
          (try simp only [Exit.inBlock, Exit.then]); refine bodyPost_ret (results_none rfl _ _ _) rfl ?_
          refine ⟨rfl, ?_⟩
          rw [← A.out, pdq_heap h12 rfl]
          exact HA.out.step hw1
        · have hl0z : ¬ ((lim : Int) = 0) := by omega
          obtain ⟨s1, B1, hc1, s2, B2, hpv, s3, B3⟩ := rd_facts (lt := lt) (limit := lim) (wb := wb) (wp := wp) hO partialInsertionSort_holds reverseRange_holds (show a' < b' by omega) (show b' ≤ dk.size by omega) hBel.out
          have B3 := Lib.hid B3
          clear B1 B2
          go_upto_if 35 with fail
          go_cut [3] from 19 (fun s3 wc => s3 = .int .i64 (rd lt dk a' b' lim wb wp).lim ∧ Hid (AtS S St w (rd lt dk a' b' lim wb wp).d1 wc))
          case first =>
            cases wb
            · have hc := Lib.hid (break_at HD.out a' b' dk wr HA.out.1 hb' (by omega) hn)
              go_wp2_with (go_at_call 90; refine hc.out.mono ?_; rintro e w1 ⟨rfl, hw1⟩)
              go_meet
              case rel =>
                refine ⟨?_, HA.out.step hw1⟩
                show Value.int .i64 ((lim : Int) - 1) = Value.int .i64 ((lim - 1 : Nat) : Int)
                congr 1
                omega
            · go_wp2_with fail
              go_meet
              case rel => exact ⟨rfl, HA⟩
          case rest =>
            obtain ⟨rfl, HA1⟩ := hcut
            have hc17 : Hid (Calls Try.prog 91 #[.iface T rv, .int .i64 a', .int .i64 b'] wc fun e w' => e = .returned (.tuple #[.int .i64 (rd lt dk a' b' lim wb wp).c.1, .int .i64 (hintCode (rd lt dk a' b' lim wb wp).c.2)]) ∧ Hid (AtS S St w (rd lt dk a' b' lim wb wp).d1 w')) :=
              (pivot_at HD.out a' b' (rd lt dk a' b' lim wb wp).d1 wc HA1.out.1 (by omega) hb').mono fun e w' ⟨he, hs, hm⟩ => ⟨he, hs, HA1.out.2.trans (none_sub hm)⟩
            go_upto_if 50 with (go_at_call 91; refine hc17.out.mono ?_; rintro e w2 ⟨rfl, HA2⟩)
            go_cut [11, 12] from 19 (fun s11 s12 wc => s11 = .int .i64 (rd lt dk a' b' lim wb wp).pivot ∧ s12 = .int .i64 (hintCode (rd lt dk a' b' lim wb wp).hint) ∧ Hid (AtS S St w (rd lt dk a' b' lim wb wp).d2 wc))
            case first =>
              by_cases hh : (rd lt dk a' b' lim wb wp).c.2 = .decreasing
              · have hcode : hintCode (rd lt dk a' b' lim wb wp).c.2 = 2 := by rw [hh]; rfl
                obtain ⟨e2, epv, eht⟩ := rd_dec hh
                have hc18 := Lib.hid (reverse_at HD.out a' b' (rd lt dk a' b' lim wb wp).d1 w2 HA2.out.1 (by omega) hb')
                go_wp2_with (go_at_call 92; refine hc18.out.mono ?_; rintro e w3 ⟨rfl, hw3⟩)
                go_meet
                case rel =>
                  refine ⟨?_, by rw [eht]; rfl, (show Hid _ from by rw [e2]; exact HA2.out.step hw3)⟩
                  rw [epv]
                  congr 1
                  omega
              · have hcode : ¬ (hintCode (rd lt dk a' b' lim wb wp).c.2 = 2) := fun h => hh (hintCode_two h)
                obtain ⟨e2, epv, eht⟩ := rd_not hh
                go_wp2_with fail
                go_meet
                case rel => exact ⟨by rw [epv], by rw [eht], (show Hid _ from by rw [e2]; exact HA2)⟩
            case rest =>
              obtain ⟨rfl, rfl, HA3⟩ := hcut
              go_upto_region 15 with fail
              go_cut [12, 68] from 19 (fun s12 s68 wx => s12 = .int .i64 (hintCode (rd lt dk a' b' lim wb wp).hint) ∧ s68 = .bool (wb && wp && decide ((rd lt dk a' b' lim wb wp).hint = .increasing)) ∧ wx = wc)
              case first =>
                cases wb <;> cases wp <;> cases hh3 : (rd lt dk a' b' lim _ _).hint <;>
                  (have hcode3 := congrArg hintCode hh3
                   simp only [hintCode] at hcode3
                   go_wp2_with fail
                   go_meet
                   exact ⟨by simp [hh3, hintCode], by simp [hh3, hintCode], rfl⟩)
              case rest =>
                obtain ⟨rfl, rfl, rfl⟩ := hcut
                go_upto_if 68 with fail
                go_cut [] from 19 (fun wx => Hid ((rd lt dk a' b' lim wb wp).pi.2 = false) ∧ Hid (AtS S St w (rd lt dk a' b' lim wb wp).pi.1 wx))
                case first =>
                  cases h68 : (wb && wp && decide ((rd lt dk a' b' lim wb wp).hint = .increasing))
                  · have epi := Lib.hid (rd_pi_no h68)
                    go_wp2_with fail
                    go_meet
                    case rel => exact ⟨(show Hid _ from by rw [epi.out]; exact rfl), (show Hid _ from by rw [epi.out]; exact HA3)⟩
                  · have epi := rd_pi_yes h68
                    have hc19 := partial_at HD.out a' b' (rd lt dk a' b' lim wb wp).d2 wc HA3.out.1 (by omega) hb'
                    rw [← epi] at hc19
                    have HC := Lib.hid hc19
                    clear hc19
                    have epi := Lib.hid epi
                    cases hp2 : (rd lt dk a' b' lim wb wp).pi.2 with
                    | false =>
                      have HC2 := HC.out
                      rw [hp2] at HC2
                      have HC3 := Lib.hid HC2
                      clear HC2
                      go_wp2_with (go_at_call 93; refine HC3.out.mono ?_; rintro e w4 ⟨rfl, hw4⟩)
                      go_meet
                      case rel => exact ⟨hp2, HA3.out.step hw4⟩
                    | true =>
                      have HC2 := HC.out
                      rw [hp2] at HC2
                      have HC3 := Lib.hid HC2
                      clear HC2
                      go_wp2_with (go_at_call 93; refine HC3.out.mono ?_; rintro e w4 ⟨rfl, hw4⟩)
                      (try simp only [Exit.inBlock, Exit.then]); refine bodyPost_ret (results_none rfl _ _ _) rfl ?_
                      refine ⟨rfl, ?_⟩
                      rw [← A.out, pdq_done h12 hl0 hp2]
                      exact HA3.out.step hw4
                case rest =>
                  obtain ⟨hp2, HA5⟩ := hcut
                  go_upto_region 17 with fail
                  go_cut [82] from 19 (fun s82 wx => s82 = .bool (decide (a' > 0) && !lt (rd lt dk a' b' lim wb wp).pi.1[a' - 1]! (rd lt dk a' b' lim wb wp).pi.1[(rd lt dk a' b' lim wb wp).pivot]!) ∧ Hid (AtS S St w (rd lt dk a' b' lim wb wp).pi.1 wx))
                  case first =>
                    rcases Nat.eq_zero_or_pos a' with ha0 | ha0
                    · have ha0z : decide ((a' : Int) > 0) = false := decide_eq_false (by omega)
                      go_wp2_with fail
                      go_meet
                      case rel => exact ⟨by simp [ha0], HA5⟩
                    · have ha0z : (a' : Int) > 0 := by omega
                      cases hlv : lt (rd lt dk a' b' lim wb wp).pi.1[a' - 1]! (rd lt dk a' b' lim wb wp).pi.1[(rd lt dk a' b' lim wb wp).pivot]! <;>
                        (have hl := LC.out w (rd lt dk a' b' lim wb wp).pi.1 wc (a' - 1) (rd lt dk a' b' lim wb wp).pivot _ HA5.out (by omega) (by omega) (by omega) hlv
                         rw [show ((a' - 1 : Nat) : Int) = (a' : Int) - 1 by omega] at hl
                         have HL := Lib.hid hl
                         have r5 : Okd St wc := ⟨_, HA5.out.1⟩
                         clear hl
                         go_wp2_with (go_at_fn gl; refine HL.out.mono ?_; rintro e w' ⟨rfl, r1, HA6⟩)
                         go_meet
                         exact ⟨by simp [ha0, hlv], HA6⟩)
                  case rest =>
                    obtain ⟨rfl, HA6⟩ := hcut
                    cases h87 : (decide (a' > 0) && !lt (rd lt dk a' b' lim wb wp).pi.1[a' - 1]! (rd lt dk a' b' lim wb wp).pi.1[(rd lt dk a' b' lim wb wp).pivot]!)
                    · obtain ⟨mid, ap, d4, hx⟩ : ∃ mid ap d4, partition lt (rd lt dk a' b' lim wb wp).pi.1 a' b' (rd lt dk a' b' lim wb wp).pivot = (mid, ap, d4) := ⟨(partition lt (rd lt dk a' b' lim wb wp).pi.1 a' b' (rd lt dk a' b' lim wb wp).pivot).1, (partition lt (rd lt dk a' b' lim wb wp).pi.1 a' b' (rd lt dk a' b' lim wb wp).pivot).2.1, (partition lt (rd lt dk a' b' lim wb wp).pi.1 a' b' (rd lt dk a' b' lim wb wp).pivot).2.2, rfl⟩
                      obtain ⟨r1, r2, r3, r4, r5, r6, r7⟩ := round_part hO (partition_holds lt) hpv.1 hpv.2 (show b' ≤ (rd lt dk a' b' lim wb wp).pi.1.size by omega) B3.out hx
                      have R6 := Lib.hid r6
                      have R7 := Lib.hid r7
                      have R4 := Lib.hid r4
                      have R5 := Lib.hid r5
                      have hs4 : d4.size = n := r3.trans (s3.trans hds)
                      clear r6 r7 r4 r5 r3
                      have hc22 := partition_at HD.out a' b' (rd lt dk a' b' lim wb wp).pivot (rd lt dk a' b' lim wb wp).pi.1 wc HA6.out.1 hpv.1 hpv.2 hb'
                      rw [hx] at hc22
                      have HC22 := Lib.hid hc22
                      have X : Hid (partition lt (rd lt dk a' b' lim wb wp).pi.1 a' b' (rd lt dk a' b' lim wb wp).pivot = (mid, ap, d4)) := hx
                      clear hx hc22
                      go_upto_if 108 with (go_at_call 95; refine HC22.out.mono ?_; rintro e w7 ⟨rfl, hw7⟩)
                      have HA7 : Hid (AtS S St w d4 w7) := HA6.out.step hw7
                      have hx := X.out
                      by_cases h4 : mid - a' < b' - mid
                      · have h4z : (mid : Int) - (a' : Int) < (b' : Int) - (mid : Int) := by omega
                        have HIH := Lib.hid (IH.out a' mid (rd lt dk a' b' lim wb wp).lim d4 w7 (by omega) HA7.out.1 (by omega) (by omega) (Nat.lt_of_le_of_lt (Nat.le_trans rd_lim_le hlim) hlimit) R4.out)
                        have PS := Lib.hid (pdq_sorts lt hO d4 a' mid (rd lt dk a' b' lim wb wp).lim true true (by omega) (by omega) R4.out)
                        clear hx hw7
                        go_wp2_with (go_at_call 80; refine HIH.out.mono ?_; rintro e w8 ⟨rfl, hw8⟩)
                        go_roundg (b' - (mid + 1))
                        case measure => omega
                        case rel =>
                          have hx := X.out
                          refine ⟨mid + 1, b', (rd lt dk a' b' lim wb wp).lim, decide (mid - a' ≥ (b' - a') / 8), ap, pdq lt d4 a' mid (rd lt dk a' b' lim wb wp).lim true true, by simp, rfl, rfl, ?_, rfl, by omega, by omega, Nat.le_refl _, by omega, Nat.le_trans rd_lim_le hlim, (R6.out _ PS.out.1 PS.out.2).1, HA7.out.step hw8, ?_⟩
                          · exact congrArg Value.bool (eighth (by omega) (by omega))
                          · show _ = _; rw [← A.out, pdq_left h12 hl0 hp2.out h87 (by rw [hx]; exact ⟨r1, r2⟩) (by rw [hx]; exact h4), hx]
                      · have h4z : ¬ ((mid : Int) - (a' : Int) < (b' : Int) - (mid : Int)) := by omega
                        have hih := IH.out (mid + 1) b' (rd lt dk a' b' lim wb wp).lim d4 w7 (by omega) HA7.out.1 (by omega) (by omega) (Nat.lt_of_le_of_lt (Nat.le_trans rd_lim_le hlim) hlimit) R5.out
                        rw [show ((mid + 1 : Nat) : Int) = (mid : Int) + 1 by omega] at hih
                        have HIH := Lib.hid hih
                        have PS := Lib.hid (pdq_sorts lt hO d4 (mid + 1) b' (rd lt dk a' b' lim wb wp).lim true true (by omega) (by omega) R5.out)
                        clear hx hw7 hih
                        go_wp2_with (go_at_call 80; refine HIH.out.mono ?_; rintro e w8 ⟨rfl, hw8⟩)
                        go_roundg (mid - a')
                        case measure => omega
                        case rel =>
                          have hx := X.out
                          refine ⟨a', mid, (rd lt dk a' b' lim wb wp).lim, decide (b' - mid ≥ (b' - a') / 8), ap, pdq lt d4 (mid + 1) b' (rd lt dk a' b' lim wb wp).lim true true, rfl, rfl, rfl, ?_, rfl, by omega, by omega, Nat.le_refl _, by omega, Nat.le_trans rd_lim_le hlim, (R7.out _ PS.out.1 PS.out.2).1, HA7.out.step hw8, ?_⟩
                          · exact congrArg Value.bool (eighth (by omega) (by omega))
                          · show _ = _; rw [← A.out, pdq_right h12 hl0 hp2.out h87 (by rw [hx]; exact ⟨r1, r2⟩) (by rw [hx]; exact h4), hx]
                    · have h87' := h87
                      simp only [Bool.and_eq_true, decide_eq_true_eq, Bool.not_eq_true'] at h87'
                      obtain ⟨mid, d4, hx⟩ : ∃ mid d4, partitionEqual lt (rd lt dk a' b' lim wb wp).pi.1 a' b' (rd lt dk a' b' lim wb wp).pivot = (mid, d4) := ⟨(partitionEqual lt (rd lt dk a' b' lim wb wp).pi.1 a' b' (rd lt dk a' b' lim wb wp).pivot).1, (partitionEqual lt (rd lt dk a' b' lim wb wp).pi.1 a' b' (rd lt dk a' b' lim wb wp).pivot).2, rfl⟩
                      obtain ⟨r1, r2, r3, r4, _⟩ := round_eq hO (partitionEqual_holds lt) h87'.1 hpv.1 hpv.2 (show b' ≤ (rd lt dk a' b' lim wb wp).pi.1.size by omega) B3.out h87'.2 hx
                      have R4 := Lib.hid r4
                      clear r4 r3 h87'
                      have hc21 := partitionEqual_at HD.out a' b' (rd lt dk a' b' lim wb wp).pivot (rd lt dk a' b' lim wb wp).pi.1 wc HA6.out.1 hpv.1 hpv.2 hb'
                      rw [hx] at hc21
                      have HC21 := Lib.hid hc21
                      have X : Hid (partitionEqual lt (rd lt dk a' b' lim wb wp).pi.1 a' b' (rd lt dk a' b' lim wb wp).pivot = (mid, d4)) := hx
                      clear hx hc21
                      go_wp2_with (go_at_call 94; refine HC21.out.mono ?_; rintro e w7 ⟨rfl, hw7⟩)
                      go_roundg (b' - mid)
                      case measure => omega
                      case rel =>
                        have hx := X.out
                        exact ⟨mid, b', (rd lt dk a' b' lim wb wp).lim, wb, wp, d4, rfl, rfl, rfl, rfl, rfl, r2, hb', Nat.le_refl _, by omega, Nat.le_trans rd_lim_le hlim, R4, HA6.out.step hw7, (show Hid _ from by show _ = _; rw [← A.out, pdq_eq h12 hl0 hp2.out h87 (by rw [hx]; exact ⟨r1, r2⟩), hx])⟩

/-- What sort.Sort answers: the list sorted. -/
def SortEnd (lt : α → α → Bool) (n : Nat) (S : Nat → Prop) (St : World → Array α → Prop) (d : Array α) (w : World) (e : Ending) (w' : World) : Prop := e = .returned (.tuple #[]) ∧ ∃ d', PermIn 0 n d d' ∧ SortedIn lt 0 n d' ∧ AtS S St w d' w'

set_option maxHeartbeats 2000000 in
set_option maxRecDepth 100000 in
theorem sort_at (h : Srt T rv vl vs gl gs lt n H S St) (hO : SWO lt) (hn : n < 65536) (gn : Nat) (vn : Value)
    (findN : ∀ w d, St w d → (method 318 T rv "Len").run Try.prog w = .ok (gn, vn) w) (enterN : ∀ args w, (callFunc gn args).run Try.prog w = .ok (.enter gn args) w)
    (hlen : ∀ w d, St w d → Calls Try.prog gn #[vn] w fun e w' => e = .returned (.int .i64 n) ∧ Mod (fun _ => False) w w')
    (d : Array α) (w : World) (hH : St w d) : Calls Try.prog 72 #[.iface T rv] w (SortEnd lt n S St d w) := by
  have hd0 : d.size = n := h.size _ _ hH
  have HL := Lib.hid (hlen w d hH)
  have HD := Lib.hid (And.intro h hH)
  have wr0 : IntKind.u64.wrap (n : Int) = n := by simp [IntKind.wrap, IntKind.bits, IntKind.signed]; omega
  have hk : bitsLen n ≤ 62 := (bitsLen_le_iff n 62).2 (by omega)
  have HB := Lib.hid (bitslen_at n hn)
  have mN : ∀ w, Okd St w → (method 318 T rv "Len").run Try.prog w = .ok (gn, vn) w := fun w ⟨d, hd⟩ => findN w d hd
  have r0 : Okd St w := ⟨_, hH⟩
  clear hlen h hH
  by_cases h2 : n ≤ 1
  · have h2z : (n : Int) ≤ 1 := by omega
    go_enter Try.func72, Try.ntmps72
    go_wp2_with (go_at_fn gn; refine HL.out.mono ?_; rintro e w1 ⟨rfl, hm1⟩)
    (try simp only [Exit.inBlock, Exit.then]); refine bodyPost_ret (results_none rfl _ _ _) rfl ?_
    refine ⟨rfl, d, permIn_refl _ _ _, fun i j h1 h3 h4 => by omega, HD.out.1.keep0 hm1 HD.out.2, none_sub hm1⟩
  · have h2z : ¬ (n : Int) ≤ 1 := by omega
    go_enter Try.func72, Try.ntmps72
    go_wp2_with (first
      | (go_at_fn gn; refine HL.out.mono ?_; rintro e w1 ⟨rfl, hm1⟩; have H1 := Lib.hid hm1; clear hm1)
      | (go_at_call 79; refine (HB.out _).mono ?_; rintro e w' ⟨rfl, rfl⟩)
      | (go_at_call 80; refine (pdq_at HD.out.1 hO hn (n + 1) 0 n (bitsLen n) d _ (by omega) (HD.out.1.keep0 H1.out HD.out.2) (by omega) (by omega) (by omega) (.inl rfl)).mono ?_; rintro e w2 ⟨rfl, h4⟩; have H4 := Lib.hid h4; clear h4))
    go_end0
    have ps := pdq_sorts lt hO d 0 n (bitsLen n) true true (by omega) (by omega) (.inl rfl)
    exact ⟨rfl, _, ps.1, ps.2, H4.out.1, (none_sub H1.out).trans H4.out.2⟩
end Go.Proofs.Ytmeooadgdagiiaa

namespace Go.Proofs.Ytmeooadgdagiiaa.K
open Go.RowKit Lox Go.Sort
set_option linter.unusedVariables false
attribute [local go_sem] run_store_flt run_store_fn

/-- Less of a reversed keeper, as a strict order: the nearer one first, the mark last. -/
def ltR : El → El → Bool
  | none, _ => false
  | some _, none => true
  | some d, some e => decide (fk d.1 < fk e.1)

theorem swo_ltR : SWO ltR where
  irrefl := fun x => by cases x <;> simp [ltR]
  trans := fun x y z => by cases x <;> cases y <;> cases z <;> simp [ltR]; omega
  ntrans := fun x y z => by cases x <;> cases y <;> cases z <;> simp [ltR]; omega

/-- At most one mark. -/
def OneE (l : List El) : Prop := ∀ i j, i < l.length → j < l.length → at' l i = none → at' l j = none → i = j

theorem OneE.swap {l : List El} (h : OneE l) {i j : Nat} (hi : i < l.length) (hj : j < l.length) : OneE (swapE l i j) := by
  intro x y hx hy h1 h2
  rw [swapE_length] at hx hy
  rw [at_swap hi hj] at h1 h2
  have k := fun a b ha hb => h a b ha hb
  split at h1 <;> split at h2
  · omega
  · split at h2
    · have := h i j hi hj h1 h2; omega
    · have := h i y hi hy h1 h2; omega
  · split at h1
    · have := h j i hj hi h1 h2; omega
    · have := h x i hx hi h1 h2; omega
  · split at h1 <;> split at h2
    · omega
    · have := h j y hj hy h1 h2; omega
    · have := h x j hx hj h1 h2; omega
    · exact h x y hx hy h1 h2

theorem ltR_of {l : List El} (h : OneE l) {i j : Nat} (hi : i < l.length) (hj : j < l.length) (hij : i ≠ j) : lessE (at' l j) (at' l i) = ltR (at' l i) (at' l j) := by
  cases h1 : at' l i with
  | none =>
    cases h2 : at' l j with
    | none => exact absurd (h i j hi hj h1 h2) hij
    | some e => rfl
  | some d =>
    cases h2 : at' l j with
    | none => rfl
    | some e => rfl

theorem get_at (d : Array El) (i : Nat) : d[i]! = at' d.toList i := by
  unfold at'
  rw [List.getD_eq_getElem?_getD, Array.getElem?_toList, getElem!_def]
  cases d[i]? <;> rfl

theorem swp_list (d : Array El) (i j : Nat) : (swp d i j).toList = swapE d.toList i j := by
  unfold swp swapE
  rw [Array.toList_setIfInBounds, Array.toList_setIfInBounds, get_at, get_at]

/-- In the order of the distances, the mark last. -/
def UpE (l : List El) : Prop := ∀ i j, i < j → j < l.length → ltR (at' l j) (at' l i) = false

theorem up_of {d : Array El} {n : Nat} (hn : d.size = n) (h : SortedIn ltR 0 n d) : UpE d.toList := fun i j hij hj => by
  rw [← get_at, ← get_at]
  exact h i j (Nat.zero_le _) hij (by rw [Array.length_toList] at hj; omega)

set_option maxHeartbeats 4000000 in
theorem kswap_same (w : World) (kb hb len cap : Nat) (els : List El) (i : Nat) (I : Int) (hI : I = i) (h : KKS w kb hb len cap els) (hi : i < len) (hl : len ≤ 1099511627776) :
    Calls Try.prog 141 #[.pointer (some ⟨kb, 0, none⟩), .int .i64 I, .int .i64 I] w fun e w' => e = .returned (.tuple #[]) ∧ KKS w' kb hb len cap (swapE els i i) ∧ Mod (fun k => k = hb) w w' := by
  subst hI
  have c0 := h.top.1
  obtain ⟨v, b, d0, d1, z0, z1, he⟩ := h.at hi
  have i1 : (0 : Int) ≤ i := by omega
  have i2 : (i : Int) < len := by omega
  have HH := Lib.hid (And.intro h he)
  have sv : ∀ (w : World) (a : Addr) (m : Mode), (store a v m).run Try.prog w = stored Try.prog w a v m := fun w a m => run_store _ w a v m (elAt_one he)
  clear h he
  go_enter Try.func141, Try.ntmps141
  go_wp2
  go_region
  all_goals
    have hK : KKS (((((w.setCell ⟨hb, i * 2, none⟩ v).setCell ⟨hb, i * 2 + 1, none⟩ (.float .f64 b)).setCell ⟨hb, i * 2, none⟩ v).setCell ⟨hb, i * 2 + 1, none⟩ (.float .f64 b)).drew) kb hb len cap (swapE els i i) := ((HH.out.1.put hi HH.out.2).put hi HH.out.2).drew
    have hM := ((mod_put (mod_put (Mod.refl (fun k => k = hb) w) (a := i * 2) (b := i * 2 + 1) (x := v) (y := .float .f64 b)) (a := i * 2) (b := i * 2 + 1) (x := v) (y := .float .f64 b))).drew
    refine bodyPost_end (by simp [results, Try.results141, go_sem]) rfl ⟨rfl, hK, hM⟩

theorem kswap_any (w : World) (kb hb len cap : Nat) (els : List El) (i j : Nat) (h : KKS w kb hb len cap els) (hi : i < len) (hj : j < len) (hl : len ≤ 1099511627776) :
    Calls Try.prog 141 #[.pointer (some ⟨kb, 0, none⟩), .int .i64 i, .int .i64 j] w fun e w' => e = .returned (.tuple #[]) ∧ KKS w' kb hb len cap (swapE els i j) ∧ Mod (fun k => k = hb) w w' := by
  by_cases hij : i = j
  · subst hij; exact kswap_same w kb hb len cap els i i rfl h hi hl
  · exact kswap_at w kb hb len cap els i j i j rfl rfl h hi hj hij hl

abbrev KP (kb : Nat) : Value := .iface 101 (.pointer (some ⟨kb, 0, none⟩))

theorem rmeth_less (rb : Nat) (w : World) : (method 318 166 (.pointer (some ⟨rb, 0, none⟩)) "Less").run Try.prog w = (do let v ← loadVar 168 ⟨rb, 0, none⟩; pure (148, v) : Sem (FuncId × Value)).run Try.prog w := by kernel_rfl
theorem rmeth_swap (rb : Nat) (w : World) : (method 318 166 (.pointer (some ⟨rb, 0, none⟩)) "Swap").run Try.prog w = (do match (← loadVar 148 ⟨rb, 0, none⟩) with | .iface t' v' => method 317 t' v' "Swap" | .nilIface => runtimePanic .nilDeref | _ => stuck "method row: interface value expected" : Sem (FuncId × Value)).run Try.prog w := by kernel_rfl
theorem rmeth_len (rb : Nat) (w : World) : (method 318 166 (.pointer (some ⟨rb, 0, none⟩)) "Len").run Try.prog w = (do match (← loadVar 148 ⟨rb, 0, none⟩) with | .iface t' v' => method 317 t' v' "Len" | .nilIface => runtimePanic .nilDeref | _ => stuck "method row: interface value expected" : Sem (FuncId × Value)).run Try.prog w := by kernel_rfl
theorem kmeth_swap7 (a : Addr) (w : World) : (method 317 101 (.pointer (some a)) "Swap").run Try.prog w = .ok (141, .pointer (some a)) w := by kernel_rfl
theorem kmeth_len7 (a : Addr) (w : World) : (method 317 101 (.pointer (some a)) "Len").run Try.prog w = .ok (137, .pointer (some a)) w := by kernel_rfl
theorem kmeth_less8 (a : Addr) (w : World) : (method 318 101 (.pointer (some a)) "Less").run Try.prog w = .ok (138, .pointer (some a)) w := by kernel_rfl

section
variable {rb kb : Nat} {w : World}
theorem find_swap (hb : Blk w rb 168 [KP kb]) : (method 318 166 (.pointer (some ⟨rb, 0, none⟩)) "Swap").run Try.prog w = .ok (141, .pointer (some ⟨kb, 0, none⟩)) w := by
  have c := hb.at (i := 0) rfl
  rw [rmeth_swap]
  simp [go_sem, c, loadVar, kmeth_swap7]
theorem find_len (hb : Blk w rb 168 [KP kb]) : (method 318 166 (.pointer (some ⟨rb, 0, none⟩)) "Len").run Try.prog w = .ok (137, .pointer (some ⟨kb, 0, none⟩)) w := by
  have c := hb.at (i := 0) rfl
  rw [rmeth_len]
  simp [go_sem, c, loadVar, kmeth_len7]
theorem find_less (hb : Blk w rb 168 [KP kb]) : (method 318 166 (.pointer (some ⟨rb, 0, none⟩)) "Less").run Try.prog w = .ok (148, .agg #[KP kb]) w := by
  have c := hb.at (i := 0) rfl
  rw [rmeth_less]
  simp [go_sem, c, loadVar]
end

set_option maxHeartbeats 2000000 in
set_option maxRecDepth 100000 in
theorem rless_at (w : World) (kb hb len cap : Nat) (els : List El) (i j : Nat) (h : KKS w kb hb len cap els) (hi : i < len) (hj : j < len) (hl : len ≤ 1099511627776) :
    Calls Try.prog 148 #[.agg #[KP kb], .int .i64 i, .int .i64 j] w fun e w' => e = .returned (.bool (lessE (at' els j) (at' els i))) ∧ Mod (fun _ => False) w w' := by
  have HL : Hid (∀ w2, Mod (fun _ => False) w w2 → Calls Try.prog 138 #[.pointer (some ⟨kb, 0, none⟩), .int .i64 j, .int .i64 i] w2 fun e w' => e = .returned (.bool (lessE (at' els j) (at' els i))) ∧ Hid (Mod (fun _ => False) w w')) := fun w2 hm =>
    (kless_at w2 kb hb len cap els j i j i rfl rfl (h.mod hm (fun h => h) (fun h => h)) hj hi hl).mono fun e w' ⟨he, n, hw⟩ => ⟨he, by rw [hw]; exact hm.trans (mod_drewN _ _ _)⟩
  have m1 := kmeth_less8
  clear h
  go_enter Try.func148, Try.ntmps148
  go_wp2_with (go_at_call 138; refine (HL.out _ ((Mod.refl _ _).alloc _)).mono ?_; rintro e w2 ⟨rfl, H2⟩)
  go_ret
  exact ⟨rfl, H2.out⟩

/-- The keeper's list in an array of the sort's. -/
structure KSt (rb kb hb n cap H : Nat) (w : World) (d : Array El) : Prop where
  ks : KKS w kb hb n cap d.toList
  rev : Blk w rb 168 [KP kb]
  low : H ≤ w.heap.size
  one : OneE d.toList

theorem srt_k (rb kb hb n cap H : Nat) (h1 : rb < H) (h2 : kb < H) (h3 : hb < H) (h4 : rb ≠ hb) (h5 : kb ≠ hb) (hl : n ≤ 1099511627776) :
    Srt 166 (.pointer (some ⟨rb, 0, none⟩)) (.agg #[KP kb]) (.pointer (some ⟨kb, 0, none⟩)) 148 141 ltR n H (fun k => k = hb) (KSt rb kb hb n cap H) where
  findL := fun w d h => find_less h.rev
  findS := fun w d h => find_swap h.rev
  enterL := enters_of Try.func148 (by kernel_rfl) rfl
  enterS := enters_of Try.func141 (by kernel_rfl) rfl
  size := fun w d h => by have := h.ks.bds.2.2.2.1; rw [this, Array.length_toList]
  most := by omega
  keep := fun w w' d hm h => ⟨h.ks.mod hm (by omega) (by omega), h.rev.mod hm (by omega), Nat.le_trans h.low hm.size, h.one⟩
  low := fun w d h => h.low
  less := fun w d i j h hi hj hij => by
    refine (rless_at w kb hb n cap d.toList i j h.ks hi hj hl).mono fun e w' ⟨he, hm⟩ => ⟨?_, hm⟩
    have hn : n = d.size := by have := h.ks.bds.2.2.2.1; rw [this, Array.length_toList]
    rw [he, ltR_of h.one (by rw [Array.length_toList]; omega) (by rw [Array.length_toList]; omega) hij, get_at d i, get_at d j]
  swap := fun w d i j h hi hj => by
    have hn : n = d.size := by have := h.ks.bds.2.2.2.1; rw [this, Array.length_toList]
    refine (kswap_any w kb hb n cap d.toList i j h.ks hi hj hl).mono fun e w' ⟨he, hk, hm⟩ => ⟨he, ⟨?_, h.rev.mod hm h4, Nat.le_trans h.low hm.size, ?_⟩, hm⟩
    · rw [swp_list d i j]; exact hk
    · rw [swp_list d i j]; exact h.one.swap (by rw [Array.length_toList]; omega) (by rw [Array.length_toList]; omega)
  far := fun k hk => by omega

set_option maxHeartbeats 1000000 in
/-- sort.Sort(sort.Reverse(k)), the reverse standing in block rb. -/
theorem ksort_at (rb kb hb n cap : Nat) (els : List El) (w : World) (h : KKS w kb hb n cap els) (hr : Blk w rb 168 [KP kb]) (h1 : OneE els) (hl : n < 65536) (h4 : rb ≠ hb) :
    Calls Try.prog 72 #[.iface 166 (.pointer (some ⟨rb, 0, none⟩))] w fun e w' => e = .returned (.tuple #[]) ∧ ∃ els', els'.Perm els ∧ UpE els' ∧ KKS w' kb hb n cap els' ∧ Mod (fun k => k = hb) w w' := by
  have hb := h.bds
  have hn : n = els.toArray.size := by rw [hb.2.2.2.1]; rfl
  refine (sort_at (srt_k rb kb _ n cap w.heap.size hr.lt hb.2.1 hb.2.2.1 h4 hb.1 (by omega)) swo_ltR hl 137 (.pointer (some ⟨kb, 0, none⟩)) (fun w d h => find_len h.rev)
    (enters_of Try.func137 (by kernel_rfl) rfl) (fun w d h => (klen_at w kb _ n cap d.toList h.ks).mono fun e w' ⟨he, hw⟩ => ⟨he, by rw [hw]; exact Mod.refl _ _⟩)
    els.toArray w ⟨h, hr, Nat.le_refl _, h1⟩).mono fun e w' ⟨he, d', hp, hs, hA⟩ => ⟨he, d'.toList, ?_, ?_, hA.1.ks, hA.2⟩
  · have h1 := hp.2.2
    rw [Array.extract_eq_self_of_le (by rw [hp.1]; omega), Array.extract_eq_self_of_le (by omega)] at h1
    exact h1
  · exact up_of (by rw [hp.1, ← hn]) hs
end Go.Proofs.Ytmeooadgdagiiaa.K

namespace Go.Proofs.Ytmeooadgdagiiaa.K.D
open Go.RowKit Lox Go.Sort
set_option linter.unusedVariables false
variable {S : Nat}
attribute [local go_sem] run_store_flt run_store_fn

set_option maxHeartbeats 4000000 in
theorem kswap_same (w : World) (kb hb len cap : Nat) (els : List El) (i : Nat) (I : Int) (hI : I = i) (h : DKS S w kb hb len cap els) (hi : i < len) (hl : len ≤ 1099511627776) :
    Calls Try.prog 141 #[.pointer (some ⟨kb, 0, none⟩), .int .i64 I, .int .i64 I] w fun e w' => e = .returned (.tuple #[]) ∧ DKS S w' kb hb len cap (swapE els i i) ∧ Mod (fun k => k = hb) w w' := by
  subst hI
  have c0 := h.top.1
  obtain ⟨v, b, d0, d1, z0, z1, he⟩ := h.at hi
  have i1 : (0 : Int) ≤ i := by omega
  have i2 : (i : Int) < len := by omega
  have HH := Lib.hid (And.intro h he)
  have sv : ∀ (w : World) (a : Addr) (m : Mode), (store a v m).run Try.prog w = stored Try.prog w a v m := fun w a m => run_store _ w a v m (elAt_one he)
  clear h he
  go_enter Try.func141, Try.ntmps141
  go_wp2
  go_region
  all_goals
    have hK : DKS S (((((w.setCell ⟨hb, i * 2, none⟩ v).setCell ⟨hb, i * 2 + 1, none⟩ (.float .f64 b)).setCell ⟨hb, i * 2, none⟩ v).setCell ⟨hb, i * 2 + 1, none⟩ (.float .f64 b)).drew) kb hb len cap (swapE els i i) := ((HH.out.1.put hi HH.out.2).put hi HH.out.2).drew
    have hM := ((mod_put (mod_put (Mod.refl (fun k => k = hb) w) (a := i * 2) (b := i * 2 + 1) (x := v) (y := .float .f64 b)) (a := i * 2) (b := i * 2 + 1) (x := v) (y := .float .f64 b))).drew
    refine bodyPost_end (by simp [results, Try.results141, go_sem]) rfl ⟨rfl, hK, hM⟩

theorem kswap_any (w : World) (kb hb len cap : Nat) (els : List El) (i j : Nat) (h : DKS S w kb hb len cap els) (hi : i < len) (hj : j < len) (hl : len ≤ 1099511627776) :
    Calls Try.prog 141 #[.pointer (some ⟨kb, 0, none⟩), .int .i64 i, .int .i64 j] w fun e w' => e = .returned (.tuple #[]) ∧ DKS S w' kb hb len cap (swapE els i j) ∧ Mod (fun k => k = hb) w w' := by
  by_cases hij : i = j
  · subst hij; exact kswap_same w kb hb len cap els i i rfl h hi hl
  · exact kswap_at w kb hb len cap els i j i j rfl rfl h hi hj hij hl

abbrev KP (kb : Nat) : Value := .iface 109 (.pointer (some ⟨kb, 0, none⟩))

theorem rmeth_less (rb : Nat) (w : World) : (method 318 166 (.pointer (some ⟨rb, 0, none⟩)) "Less").run Try.prog w = (do let v ← loadVar 168 ⟨rb, 0, none⟩; pure (148, v) : Sem (FuncId × Value)).run Try.prog w := by kernel_rfl
theorem rmeth_swap (rb : Nat) (w : World) : (method 318 166 (.pointer (some ⟨rb, 0, none⟩)) "Swap").run Try.prog w = (do match (← loadVar 148 ⟨rb, 0, none⟩) with | .iface t' v' => method 317 t' v' "Swap" | .nilIface => runtimePanic .nilDeref | _ => stuck "method row: interface value expected" : Sem (FuncId × Value)).run Try.prog w := by kernel_rfl
theorem rmeth_len (rb : Nat) (w : World) : (method 318 166 (.pointer (some ⟨rb, 0, none⟩)) "Len").run Try.prog w = (do match (← loadVar 148 ⟨rb, 0, none⟩) with | .iface t' v' => method 317 t' v' "Len" | .nilIface => runtimePanic .nilDeref | _ => stuck "method row: interface value expected" : Sem (FuncId × Value)).run Try.prog w := by kernel_rfl
theorem kmeth_swap7 (a : Addr) (w : World) : (method 317 109 (.pointer (some a)) "Swap").run Try.prog w = .ok (141, .pointer (some a)) w := by kernel_rfl
theorem kmeth_len7 (a : Addr) (w : World) : (method 317 109 (.pointer (some a)) "Len").run Try.prog w = .ok (137, .pointer (some a)) w := by kernel_rfl
theorem kmeth_less8 (a : Addr) (w : World) : (method 318 109 (.pointer (some a)) "Less").run Try.prog w = .ok (138, .pointer (some a)) w := by kernel_rfl

section
variable {rb kb : Nat} {w : World}
theorem find_swap (hb : Blk w rb 168 [KP kb]) : (method 318 166 (.pointer (some ⟨rb, 0, none⟩)) "Swap").run Try.prog w = .ok (141, .pointer (some ⟨kb, 0, none⟩)) w := by
  have c := hb.at (i := 0) rfl
  rw [rmeth_swap]
  simp [go_sem, c, loadVar, kmeth_swap7]
theorem find_len (hb : Blk w rb 168 [KP kb]) : (method 318 166 (.pointer (some ⟨rb, 0, none⟩)) "Len").run Try.prog w = .ok (137, .pointer (some ⟨kb, 0, none⟩)) w := by
  have c := hb.at (i := 0) rfl
  rw [rmeth_len]
  simp [go_sem, c, loadVar, kmeth_len7]
theorem find_less (hb : Blk w rb 168 [KP kb]) : (method 318 166 (.pointer (some ⟨rb, 0, none⟩)) "Less").run Try.prog w = .ok (148, .agg #[KP kb]) w := by
  have c := hb.at (i := 0) rfl
  rw [rmeth_less]
  simp [go_sem, c, loadVar]
end

set_option maxHeartbeats 2000000 in
set_option maxRecDepth 100000 in
theorem rless_at (w : World) (kb hb len cap : Nat) (els : List El) (i j : Nat) (h : DKS S w kb hb len cap els) (hi : i < len) (hj : j < len) (hl : len ≤ 1099511627776) :
    Calls Try.prog 148 #[.agg #[KP kb], .int .i64 i, .int .i64 j] w fun e w' => e = .returned (.bool (lessE (at' els j) (at' els i))) ∧ Mod (fun _ => False) w w' := by
  have HL : Hid (∀ w2, Mod (fun _ => False) w w2 → Calls Try.prog 138 #[.pointer (some ⟨kb, 0, none⟩), .int .i64 j, .int .i64 i] w2 fun e w' => e = .returned (.bool (lessE (at' els j) (at' els i))) ∧ Hid (Mod (fun _ => False) w w')) := fun w2 hm =>
    (kless_at w2 kb hb len cap els j i j i rfl rfl (h.mod hm (fun h => h) (fun h => h)) hj hi hl).mono fun e w' ⟨he, n, hw⟩ => ⟨he, by rw [hw]; exact hm.trans (mod_drewN _ _ _)⟩
  have m1 := kmeth_less8
  clear h
  go_enter Try.func148, Try.ntmps148
  go_wp2_with (go_at_call 138; refine (HL.out _ ((Mod.refl _ _).alloc _)).mono ?_; rintro e w2 ⟨rfl, H2⟩)
  go_ret
  exact ⟨rfl, H2.out⟩

/-- The keeper's list in an array of the sort's. -/
structure KSt (S rb kb hb n cap H : Nat) (w : World) (d : Array El) : Prop where
  ks : DKS S w kb hb n cap d.toList
  rev : Blk w rb 168 [KP kb]
  low : H ≤ w.heap.size
  one : OneE d.toList

theorem srt_k (S rb kb hb n cap H : Nat) (h1 : rb < H) (h2 : kb < H) (h3 : hb < H) (h4 : rb ≠ hb) (h5 : kb ≠ hb) (hl : n ≤ 1099511627776) :
    Srt 166 (.pointer (some ⟨rb, 0, none⟩)) (.agg #[KP kb]) (.pointer (some ⟨kb, 0, none⟩)) 148 141 ltR n H (fun k => k = hb) (KSt S rb kb hb n cap H) where
  findL := fun w d h => find_less h.rev
  findS := fun w d h => find_swap h.rev
  enterL := enters_of Try.func148 (by kernel_rfl) rfl
  enterS := enters_of Try.func141 (by kernel_rfl) rfl
  size := fun w d h => by have := h.ks.bds.2.2.2.1; rw [this, Array.length_toList]
  most := by omega
  keep := fun w w' d hm h => ⟨h.ks.mod hm (by omega) (by omega), h.rev.mod hm (by omega), Nat.le_trans h.low hm.size, h.one⟩
  low := fun w d h => h.low
  less := fun w d i j h hi hj hij => by
    refine (rless_at w kb hb n cap d.toList i j h.ks hi hj hl).mono fun e w' ⟨he, hm⟩ => ⟨?_, hm⟩
    have hn : n = d.size := by have := h.ks.bds.2.2.2.1; rw [this, Array.length_toList]
    rw [he, ltR_of h.one (by rw [Array.length_toList]; omega) (by rw [Array.length_toList]; omega) hij, get_at d i, get_at d j]
  swap := fun w d i j h hi hj => by
    have hn : n = d.size := by have := h.ks.bds.2.2.2.1; rw [this, Array.length_toList]
    refine (kswap_any w kb hb n cap d.toList i j h.ks hi hj hl).mono fun e w' ⟨he, hk, hm⟩ => ⟨he, ⟨?_, h.rev.mod hm h4, Nat.le_trans h.low hm.size, ?_⟩, hm⟩
    · rw [swp_list d i j]; exact hk
    · rw [swp_list d i j]; exact h.one.swap (by rw [Array.length_toList]; omega) (by rw [Array.length_toList]; omega)
  far := fun k hk => by omega

set_option maxHeartbeats 1000000 in
/-- sort.Sort(sort.Reverse(k)), the reverse standing in block rb. -/
theorem ksort_at (S rb kb hb n cap : Nat) (els : List El) (w : World) (h : DKS S w kb hb n cap els) (hr : Blk w rb 168 [KP kb]) (h1 : OneE els) (hl : n < 65536) (h4 : rb ≠ hb) :
    Calls Try.prog 72 #[.iface 166 (.pointer (some ⟨rb, 0, none⟩))] w fun e w' => e = .returned (.tuple #[]) ∧ ∃ els', els'.Perm els ∧ UpE els' ∧ DKS S w' kb hb n cap els' ∧ Mod (fun k => k = hb) w w' := by
  have hb := h.bds
  have hn : n = els.toArray.size := by rw [hb.2.2.2.1]; rfl
  refine (sort_at (srt_k S rb kb _ n cap w.heap.size hr.lt hb.2.1 hb.2.2.1 h4 hb.1 (by omega)) swo_ltR hl 137 (.pointer (some ⟨kb, 0, none⟩)) (fun w d h => find_len h.rev)
    (enters_of Try.func137 (by kernel_rfl) rfl) (fun w d h => (klen_at w kb _ n cap d.toList h.ks).mono fun e w' ⟨he, hw⟩ => ⟨he, by rw [hw]; exact Mod.refl _ _⟩)
    els.toArray w ⟨h, hr, Nat.le_refl _, h1⟩).mono fun e w' ⟨he, d', hp, hs, hA⟩ => ⟨he, d'.toList, ?_, ?_, hA.1.ks, hA.2⟩
  · have h1 := hp.2.2
    rw [Array.extract_eq_self_of_le (by rw [hp.1]; omega), Array.extract_eq_self_of_le (by omega)] at h1
    exact h1
  · exact up_of (by rw [hp.1, ← hn]) hs
end Go.Proofs.Ytmeooadgdagiiaa.K.D

namespace Lox.KB

variable {α : Type}

/-- Two places of a list, changed one for the other. -/
def swp (l : List α) (i j : Nat) : List α :=
  match l[i]?, l[j]? with
  | some a, some b => (l.set i b).set j a
  | _, _ => l

theorem swp_len (l : List α) (i j : Nat) : (swp l i j).length = l.length := by
  unfold swp; split <;> simp

theorem swp_at (l : List α) (i j : Nat) (hi : i < l.length) (hj : j < l.length) (k : Nat) :
    (swp l i j)[k]? = if k = j then l[i]? else if k = i then l[j]? else l[k]? := by
  unfold swp
  rw [List.getElem?_eq_getElem hi, List.getElem?_eq_getElem hj]
  simp only [List.getElem?_set, List.length_set]
  by_cases h1 : k = j
  · subst h1; simp [hj]
  · by_cases h2 : k = i
    · subst h2; simp [h1, hi, Ne.symm h1]
    · simp [Ne.symm h1, Ne.symm h2, h1, h2]

theorem swp_same (l : List α) (i : Nat) : swp l i i = l := by
  apply List.ext_getElem?
  intro k
  by_cases hi : i < l.length
  · rw [swp_at l i i hi hi]; split
    · next h => rw [h]
    · rfl
  · unfold swp
    rw [List.getElem?_eq_none (l := l) (i := i) (by omega)]

theorem swp_perm (l : List α) (i j : Nat) : (swp l i j).Perm l := by
  by_cases hi : i < l.length
  · by_cases hj : j < l.length
    · have : swp l i j = (l.set i l[j]).set j l[i] := by
        unfold swp; rw [List.getElem?_eq_getElem hi, List.getElem?_eq_getElem hj]
      rw [this]
      exact List.set_set_perm hi hj
    · unfold swp
      rw [List.getElem?_eq_none (l := l) (i := j) (by omega)]
      split
      · next h => cases h
      · exact List.Perm.refl _
  · unfold swp
    rw [List.getElem?_eq_none (l := l) (i := i) (by omega)]

theorem swp_mid (A l B : List α) (i j : Nat) (hi : i < l.length) (hj : j < l.length) : swp (A ++ (l ++ B)) (A.length + i) (A.length + j) = A ++ (swp l i j ++ B) := by
  have get : ∀ k, k < l.length → (A ++ (l ++ B))[A.length + k]? = l[k]? := by
    intro k hk
    rw [List.getElem?_append_right (by omega), List.getElem?_append_left (by omega)]
    congr 1
    omega
  unfold swp
  rw [get i hi, get j hj, List.getElem?_eq_getElem hi, List.getElem?_eq_getElem hj]
  simp only
  rw [List.set_append_right _ _ (by omega), List.set_append_right _ _ (by omega), List.set_append_left _ _ (by omega), List.set_append_left _ _ (by simp; omega)]
  simp

/-- Partition's loop: n rounds to go, at i, with the index that it holds. le x y: x's number is at most y's. -/
def partLoop (le : α → α → Bool) (last : Nat) : Nat → List α → Nat → Nat → List α × Nat
  | 0, l, _, idx => (l, idx)
  | n + 1, l, i, idx =>
    match l[i]?, l[last]? with
    | some x, some p => if le x p then partLoop le last n (swp l idx i) (i + 1) (idx + 1) else partLoop le last n l (i + 1) idx
    | _, _ => (l, idx)

/-- Partition: the list behind it, and the place that it returns. -/
def part (le : α → α → Bool) (l : List α) (k : Nat) : List α × Nat :=
  let r := partLoop le (l.length - 1) (l.length - 1) (swp l k (l.length - 1)) 0 0
  (swp r.1 (l.length - 1) r.2, r.2)

/-- What the loop keeps. -/
structure PI (le : α → α → Bool) (last : Nat) (p : α) (l0 l : List α) (i idx : Nat) : Prop where
  len : l.length = l0.length
  perm : l.Perm l0
  piv : l[last]? = some p
  ii : idx ≤ i
  il : i ≤ last
  low : ∀ j x, j < idx → l[j]? = some x → le x p = true
  high : ∀ j x, idx ≤ j → j < i → l[j]? = some x → le x p = false

theorem partLoop_ok (le : α → α → Bool) (last : Nat) (p : α) (l0 : List α) (hl : last < l0.length) :
    ∀ (n : Nat) (l : List α) (i idx : Nat), i + n = last → PI le last p l0 l i idx →
      PI le last p l0 (partLoop le last n l i idx).1 last (partLoop le last n l i idx).2 := by
  intro n
  induction n with
  | zero => intro l i idx hn h; have : i = last := by omega
            subst this; exact h
  | succ n ih =>
    intro l i idx hn h
    have hi : i < l.length := by rw [h.len]; omega
    have hx : idx < l.length := by have := h.ii; omega
    have hla : last < l.length := by rw [h.len]; omega
    have hle := h.ii
    unfold partLoop
    rw [List.getElem?_eq_getElem hi, h.piv]
    by_cases hc : le l[i] p = true
    · simp only [hc, if_true]
      refine ih _ _ _ (by omega) ⟨by rw [swp_len, h.len], (swp_perm _ _ _).trans h.perm, ?_, by omega, by omega, ?_, ?_⟩
      · rw [swp_at _ _ _ hx hi, if_neg (by omega), if_neg (by omega)]; exact h.piv
      · intro j x hj e
        rw [swp_at _ _ _ hx hi] at e
        by_cases h1 : j = i
        · rw [if_pos h1] at e
          have hxi : idx = i := by omega
          rw [hxi, List.getElem?_eq_getElem hi] at e
          cases e; exact hc
        · rw [if_neg h1] at e
          by_cases h2 : j = idx
          · rw [if_pos h2, List.getElem?_eq_getElem hi] at e; cases e; exact hc
          · rw [if_neg h2] at e; exact h.low j x (by omega) e
      · intro j x h1 h2 e
        rw [swp_at _ _ _ hx hi] at e
        by_cases h3 : j = i
        · rw [if_pos h3] at e; exact h.high idx x (by omega) (by omega) e
        · rw [if_neg h3, if_neg (by omega)] at e; exact h.high j x (by omega) (by omega) e
    · simp only [hc, if_false, Bool.false_eq_true]
      refine ih _ _ _ (by omega) ⟨h.len, h.perm, h.piv, by omega, by omega, h.low, ?_⟩
      intro j x h1 h2 e
      by_cases h3 : j = i
      · rw [h3, List.getElem?_eq_getElem hi] at e; cases e; simpa using hc
      · exact h.high j x h1 (by omega) e

theorem part_len (le : α → α → Bool) (l : List α) (k : Nat) (hk : k < l.length) (p : α) (hp : l[k]? = some p) :
    PI le (l.length - 1) p l (partLoop le (l.length - 1) (l.length - 1) (swp l k (l.length - 1)) 0 0).1 (l.length - 1)
      (partLoop le (l.length - 1) (l.length - 1) (swp l k (l.length - 1)) 0 0).2 := by
  refine partLoop_ok le _ p l (by omega) _ _ 0 0 (by omega) ⟨swp_len _ _ _, swp_perm _ _ _, ?_, by omega, by omega, by intro j _ h; omega, by intro j _ _ h; omega⟩
  rw [swp_at _ _ _ hk (by omega), if_pos rfl, hp]

/-- What Partition does: the place is one of the list's, the picked one stands there, those before are at most it, those behind are not. -/
theorem part_ok (le : α → α → Bool) (l : List α) (k : Nat) (hk : k < l.length) (p : α) (hp : l[k]? = some p) :
    (part le l k).1.length = l.length ∧ (part le l k).1.Perm l ∧ (part le l k).2 < l.length ∧ (part le l k).1[(part le l k).2]? = some p ∧
      (∀ j x, j < (part le l k).2 → (part le l k).1[j]? = some x → le x p = true) ∧
      (∀ j x, (part le l k).2 < j → (part le l k).1[j]? = some x → le x p = false) := by
  have h := part_len le l k hk p hp
  unfold part
  generalize (partLoop le (l.length - 1) (l.length - 1) (swp l k (l.length - 1)) 0 0) = r at h
  obtain ⟨m, idx⟩ := r
  simp only at h ⊢
  have hlen := h.len
  have hle := h.ii
  have hx : idx < m.length := by omega
  have hla : l.length - 1 < m.length := by omega
  refine ⟨by rw [swp_len, h.len], (swp_perm _ _ _).trans h.perm, by omega, ?_, ?_, ?_⟩
  · rw [swp_at _ _ _ hla hx, if_pos rfl]; exact h.piv
  · intro j x hj e
    rw [swp_at _ _ _ hla hx, if_neg (by omega), if_neg (by omega)] at e
    exact h.low j x hj e
  · intro j x hj e
    have hj2 : j < m.length := by
      have := (List.getElem?_eq_some_iff.1 e).1; rw [swp_len] at this; exact this
    rw [swp_at _ _ _ hla hx, if_neg (by omega)] at e
    by_cases h1 : j = l.length - 1
    · rw [if_pos h1] at e; exact h.high idx x (by omega) (by omega) e
    · rw [if_neg h1] at e; exact h.high j x (by omega) (by omega) e

/-- A tree of points. -/
inductive T (α : Type) where
  | nil
  | node (p : α) (plane : Nat) (l r : T α)

def T.all : T α → List α
  | .nil => []
  | .node p _ l r => l.all ++ p :: r.all

/-- Which one is picked of n, and what picks are left. -/
def pick (n : Nat) : List Nat → Nat × List Nat
  | [] => (n / 2, [])
  | k :: ks => (k % n, ks)

/-- build: dims coordinates, at: which number of a point. -/
def build (le : Nat → α → α → Bool) (dims : Nat) : Nat → List α → List Nat → Nat → T α × List Nat
  | 0, _, ks, _ => (.nil, ks)
  | n + 1, l, ks, d =>
    if l.length = 0 then (.nil, ks) else
    let k := pick l.length ks
    let r := part (le d) l k.1
    match r.1[r.2]? with
    | none => (.nil, ks)
    | some p =>
      let a := build le dims n (r.1.take r.2) k.2 ((d + 1) % dims)
      let b := build le dims n (r.1.drop (r.2 + 1)) a.2 ((d + 1) % dims)
      (.node p d a.1 b.1, b.2)

theorem pick_lt (n : Nat) (hn : 0 < n) (ks : List Nat) : (pick n ks).1 < n := by
  unfold pick
  split
  · exact Nat.div_lt_self hn (by decide)
  · exact Nat.mod_lt _ hn

/-- All the points of a tree. -/
def T.Each (P : α → Nat → Prop) : T α → Prop
  | .nil => True
  | .node p d l r => P p d ∧ l.Each P ∧ r.Each P

/-- On a node's left no number on its plane is above its own, on its right all are. -/
def T.Ord (le : Nat → α → α → Bool) : T α → Prop
  | .nil => True
  | .node p d l r => (∀ x ∈ l.all, le d x p = true) ∧ (∀ x ∈ r.all, le d x p = false) ∧ l.Ord le ∧ r.Ord le

theorem split_at {l : List α} {i : Nat} {p : α} (h : l[i]? = some p) : l.take i ++ p :: l.drop (i + 1) = l := by
  obtain ⟨hi, e⟩ := List.getElem?_eq_some_iff.1 h
  rw [← e, List.getElem_cons_drop, List.take_append_drop]

theorem build_node (le : Nat → α → α → Bool) (dims n : Nat) (l : List α) (ks : List Nat) (d : Nat) (hl : 0 < l.length) (p : α) (hp : l[(pick l.length ks).1]? = some p) :
    ∃ (m : List α) (i : Nat), part (le d) l (pick l.length ks).1 = (m, i) ∧ m.length = l.length ∧ m.Perm l ∧ i < l.length ∧ m[i]? = some p ∧
      (∀ x ∈ m.take i, le d x p = true) ∧ (∀ x ∈ m.drop (i + 1), le d x p = false) ∧
      build le dims (n + 1) l ks d = (.node p d (build le dims n (m.take i) (pick l.length ks).2 ((d + 1) % dims)).1
        (build le dims n (m.drop (i + 1)) (build le dims n (m.take i) (pick l.length ks).2 ((d + 1) % dims)).2 ((d + 1) % dims)).1,
        (build le dims n (m.drop (i + 1)) (build le dims n (m.take i) (pick l.length ks).2 ((d + 1) % dims)).2 ((d + 1) % dims)).2) := by
  obtain ⟨h1, h2, h3, h4, h5, h6⟩ := part_ok (le d) l (pick l.length ks).1 (pick_lt _ hl _) p hp
  generalize hr : part (le d) l (pick l.length ks).1 = r at h1 h2 h3 h4 h5 h6
  obtain ⟨m, i⟩ := r
  simp only at h1 h2 h3 h4 h5 h6
  refine ⟨m, i, rfl, h1, h2, h3, h4, ?_, ?_, ?_⟩
  · intro x hx
    obtain ⟨j, hj, e⟩ := List.mem_iff_getElem.1 hx
    rw [List.length_take] at hj
    refine h5 j x (by omega) ?_
    rw [List.getElem_take] at e
    rw [← e]; exact List.getElem?_eq_getElem _
  · intro x hx
    obtain ⟨j, hj, e⟩ := List.mem_iff_getElem.1 hx
    rw [List.length_drop] at hj
    refine h6 (i + 1 + j) x (by omega) ?_
    rw [List.getElem_drop] at e
    rw [← e]; exact List.getElem?_eq_getElem _
  · conv => lhs; unfold build
    rw [if_neg (by omega)]
    simp only [hr, h4]

theorem build_all (le : Nat → α → α → Bool) (dims : Nat) (hd : 0 < dims) : ∀ (n : Nat) (l : List α) (ks : List Nat) (d : Nat), l.length ≤ n → d < dims →
    (build le dims n l ks d).1.all.Perm l ∧ (build le dims n l ks d).1.Ord le ∧ (build le dims n l ks d).1.Each (fun _ d => d < dims) := by
  intro n
  induction n with
  | zero => intro l ks d hl hdd
            have : l = [] := List.length_eq_zero_iff.1 (by omega)
            subst this; unfold build; exact ⟨List.Perm.refl _, trivial, trivial⟩
  | succ n ih =>
    intro l ks d hl hdd
    by_cases h0 : l.length = 0
    · have : l = [] := List.length_eq_zero_iff.1 h0
      subst this; unfold build; rw [if_pos (by simp)]; exact ⟨List.Perm.refl _, trivial, trivial⟩
    · have hk := pick_lt l.length (by omega) ks
      obtain ⟨m, i, hp, e1, e2, e3, e4, e5, e6, e7⟩ := build_node le dims n l ks d (by omega) _ (List.getElem?_eq_getElem hk)
      rw [e7]
      have hn := Nat.mod_lt (d + 1) hd
      obtain ⟨a1, a2, a3⟩ := ih (m.take i) (pick l.length ks).2 ((d + 1) % dims) (by rw [List.length_take]; omega) hn
      obtain ⟨b1, b2, b3⟩ := ih (m.drop (i + 1)) (build le dims n (m.take i) (pick l.length ks).2 ((d + 1) % dims)).2 ((d + 1) % dims) (by rw [List.length_drop]; omega) hn
      refine ⟨?_, ⟨fun x hx => e5 x (a1.mem_iff.1 hx), fun x hx => e6 x (b1.mem_iff.1 hx), a2, b2⟩, hdd, a3, b3⟩
      simp only [T.all]
      have h := (a1.append (b1.cons l[(pick l.length ks).1]))
      rw [split_at e4] at h
      exact h.trans e2

/-- insert. -/
def ins (le : Nat → α → α → Bool) (dims : Nat) (p : α) : Nat → T α → T α
  | d, .nil => .node p d .nil .nil
  | _, .node q pl l r => if le pl p q then .node q pl (ins le dims p ((pl + 1) % dims) l) r else .node q pl l (ins le dims p ((pl + 1) % dims) r)

def T.rootIs (p : α) : T α → Prop
  | .nil => False
  | .node q _ _ _ => q = p

theorem ins_root (le : Nat → α → α → Bool) (dims : Nat) (p q : α) (d : Nat) (t : T α) (h : t.rootIs q) : (ins le dims p d t).rootIs q := by
  cases t with
  | nil => exact h.elim
  | node a pl l r => unfold ins; split <;> exact h

/-- All inserted. -/
def inss (le : Nat → α → α → Bool) (dims : Nat) (t : T α) (ps : List α) : T α := ps.foldl (fun t p => ins le dims p 0 t) t

theorem inss_root (le : Nat → α → α → Bool) (dims : Nat) (q : α) : ∀ (ps : List α) (t : T α), t.rootIs q → (inss le dims t ps).rootIs q := by
  intro ps
  induction ps with
  | nil => intro t h; exact h
  | cons p ps ih => intro t h; exact ih _ (ins_root le dims p q 0 t h)

theorem build_root (le : Nat → α → α → Bool) (dims n : Nat) (l : List α) (ks : List Nat) (hl : 0 < l.length) (p : α) (hp : l[(pick l.length ks).1]? = some p) : (build le dims (n + 1) l ks 0).1.rootIs p := by
  obtain ⟨m, i, _, _, _, _, _, _, _, e7⟩ := build_node le dims n l ks 0 hl p hp
  rw [e7]; rfl

end Lox.KB

namespace Go.Proofs.Ytmeooadgdagiiaa
open Go.RowKit Lox
set_option linter.unusedVariables false
attribute [local go_sem] run_store_flt run_store_fn undef

/-- A point as it lies in the array: its slice and the numbers' bits. -/
structure TP where
  A : Option Addr
  c : Nat
  xs : List Nat

def TP.v (p : TP) : Value := .slice p.A p.xs.length p.c

/-- The array's block: the points, and whatever stands behind them. -/
def TPs (w : World) (pb : Nat) (ps : List TP) : Prop := ∃ rest, Blk w pb 73 (ps.map TP.v ++ rest)

theorem TPs.lt {w : World} {pb : Nat} {ps : List TP} (h : TPs w pb ps) : pb < w.heap.size := by obtain ⟨rest, h⟩ := h; exact h.lt

theorem TPs.at {w : World} {pb i : Nat} {ps : List TP} {p : TP} (h : TPs w pb ps) (hp : ps[i]? = some p) : w.cell? ⟨pb, i, none⟩ = some p.v := by
  obtain ⟨rest, h⟩ := h
  have hl := (List.getElem?_eq_some_iff.1 hp).1
  exact h.at (by rw [List.getElem?_append_left (by simpa using hl), List.getElem?_map, hp]; rfl)

theorem TPs.frozen {w : World} {pb : Nat} {ps : List TP} (h : TPs w pb ps) (i : Nat) : w.frozen? ⟨pb, i, none⟩ = false := by obtain ⟨rest, h⟩ := h; exact h.frozen i

theorem TPs.mod {w w' : World} {pb : Nat} {ps : List TP} {S : Nat → Prop} (h : TPs w pb ps) (hm : Mod S w w') (hS : ¬ S pb) : TPs w' pb ps := by obtain ⟨rest, h⟩ := h; exact ⟨rest, h.mod hm hS⟩

theorem TPs.set {w : World} {pb : Nat} {ps : List TP} (h : TPs w pb ps) (i : Nat) (hi : i < ps.length) (p : TP) : TPs (w.setCell ⟨pb, i, none⟩ p.v) pb (ps.set i p) := by
  obtain ⟨rest, h⟩ := h
  refine ⟨rest, ?_⟩
  have := Blk.set h i p.v
  rw [List.set_append_left _ _ (by simpa using hi)] at this
  rw [List.map_set]
  exact this

theorem TPs.alloc {w : World} {pb : Nat} {ps : List TP} (h : TPs w pb ps) (x : Obj) : TPs (w.alloc x) pb ps := by obtain ⟨rest, h⟩ := h; exact ⟨rest, h.alloc x⟩

theorem TPs.drew {w : World} {pb : Nat} {ps : List TP} (h : TPs w pb ps) : TPs w.drew pb ps := h

theorem swp_set {α : Type} {l : List α} {i j : Nat} {a b : α} (hi : l[i]? = some a) (hj : l[j]? = some b) : KB.swp l i j = (l.set i b).set j a := by
  unfold KB.swp
  rw [hi, hj]

set_option maxHeartbeats 4000000 in
theorem pswap_at (w : World) (d : Int) (pb o n c : Nat) (ps : List TP) (i j : Nat) (I J : Int) (hI : I = i) (hJ : J = j) (h : TPs w pb ps) (hi : i < n) (hj : j < n) (hn : o + n ≤ ps.length) (hl : ps.length ≤ 1099511627776) (hc : n ≤ c) :
    Calls Try.prog 156 #[.agg #[.int .i64 d, .slice (some ⟨pb, o, none⟩) n c], .int .i64 I, .int .i64 J] w fun e w' => e = .returned (.tuple #[]) ∧ TPs w' pb (KB.swp ps (o + i) (o + j)) ∧ Mod (fun k => k = pb) w w' := by
  subst hI hJ
  obtain ⟨p, hp⟩ : ∃ p, ps[o + i]? = some p := ⟨_, List.getElem?_eq_getElem (by omega)⟩
  obtain ⟨q, hq⟩ : ∃ q, ps[o + j]? = some q := ⟨_, List.getElem?_eq_getElem (by omega)⟩
  rw [swp_set hp hq]
  have c1 : w.cell? ⟨pb, o + i, none⟩ = some p.v := TPs.at h hp
  have c2 : w.cell? ⟨pb, o + j, none⟩ = some q.v := TPs.at h hq
  have f1 : w.frozen? ⟨pb, o + i, none⟩ = false := TPs.frozen h _
  have f2 : w.frozen? ⟨pb, o + j, none⟩ = false := TPs.frozen h _
  have i1 : (0 : Int) ≤ i := by omega
  have i2 : (i : Int) < n := by omega
  have j1 : (0 : Int) ≤ j := by omega
  have j2 : (j : Int) < n := by omega
  have lt := TPs.lt h
  have HH := Lib.hid h
  clear h
  unfold TP.v at c1 c2
  by_cases hij : i = j
  · subst hij
    obtain rfl : p = q := by have e := hp.symm.trans hq; cases e; rfl
    clear hq hp
    go_enter Try.func156, Try.ntmps156
    go_wp2
    go_region
    all_goals
      have hK := (((HH.out.set (o + i) (by omega) p).set (o + i) (by rw [List.length_set]; omega) p)).alloc (Obj.cells #[Value.int IntKind.i64 d, Value.slice (some { block := pb, off := o }) n c] 209) |>.drew
      have hM := ((((Mod.refl (fun k => k = pb) w).set (p := ⟨pb, o + i, none⟩) (Or.inl rfl) (.slice p.A p.xs.length p.c)).set (p := ⟨pb, o + i, none⟩) (Or.inl rfl) (.slice p.A p.xs.length p.c)).alloc (Obj.cells #[Value.int IntKind.i64 d, Value.slice (some { block := pb, off := o }) n c] 209)).drew
      refine bodyPost_end (by simp [results, Try.results156, go_sem]) rfl ⟨rfl, hK, hM⟩
  · have n1 : o + i ≠ o + j := by omega
    have n2 : o + j ≠ o + i := by omega
    clear hij hp hq
    go_enter Try.func156, Try.ntmps156
    go_wp2
    go_region
    all_goals
      have hK := (((HH.out.set (o + i) (by omega) q).set (o + j) (by rw [List.length_set]; omega) p)).alloc (Obj.cells #[Value.int IntKind.i64 d, Value.slice (some { block := pb, off := o }) n c] 209) |>.drew
      have hM := ((((Mod.refl (fun k => k = pb) w).set (p := ⟨pb, o + i, none⟩) (Or.inl rfl) (.slice q.A q.xs.length q.c)).set (p := ⟨pb, o + j, none⟩) (Or.inl rfl) (.slice p.A p.xs.length p.c)).alloc (Obj.cells #[Value.int IntKind.i64 d, Value.slice (some { block := pb, off := o }) n c] 209)).drew
      refine bodyPost_end (by simp [results, Try.results156, go_sem]) rfl ⟨rfl, hK, hM⟩
end Go.Proofs.Ytmeooadgdagiiaa
