/- Steps of a proof, one behind another: sort.Sort over ANY receiver: the walk of sort.siftDown. sort.Sort over ANY receiver: the walk of sort.heapSort. sort.Sort over ANY receiver: the walk of sort.reverseRange. sort.Sort over ANY receiver: the walks of sort.order2, median, medianAdjacent. sort.Sort over ANY receiver: the walk of sort.choosePivot. sort.Sort over ANY receiver: the walk of sort.pdqsort, and of sort.Sort (at most 65535 elements). Conditions: as each theorem says. -/
import Derived.Test.YtpamoleocjdjiaaDoorMv5
import Derived.Deep.DeepCutAuto
import Derived.Sort.LotD4
import Derived.Sort.AtCall
import Derived.Sort.Walk13

namespace Go.Proofs.YtpamoleocjdjiaaDoor
open Go.RowKit Lox Go.Sort
set_option linter.unusedVariables false
variable {α : Type} [Inhabited α] {T : TypeId} {rv vl vs : Value} {gl gs n H : Nat} {lt : α → α → Bool} {S : Nat → Prop} {St : World → Array α → Prop}

theorem sift_stop {hi F r : Nat} {d : Array α} (h : ¬ 2 * r + 1 < hi) : siftDown lt hi F r d = d := by rw [siftDown, dif_pos (by omega)]
theorem sift_two {hi F r : Nat} {d : Array α} {b : Bool} (h : 2 * r + 1 + 1 < hi) (h1 : lt d[F + (2 * r + 1)]! d[F + (2 * r + 1) + 1]! = true) (h2 : lt d[F + r]! d[F + (2 * r + 2)]! = b) : siftDown lt hi F r d = if b = true then siftDown lt hi F (2 * r + 2) (swp d (F + r) (F + (2 * r + 2))) else d := by
  rw [siftDown, dif_neg (by omega), if_pos (by simp [h, h1]), h2]
  cases b
  · simp
  · have h3 : 2 * r + 2 < hi := by omega
    simp [h3]
theorem sift_one {hi F r : Nat} {d : Array α} {b : Bool} (h : 2 * r + 1 < hi) (h1 : ¬ 2 * r + 1 + 1 < hi ∨ lt d[F + (2 * r + 1)]! d[F + (2 * r + 1) + 1]! = false) (h2 : lt d[F + r]! d[F + (2 * r + 1)]! = b) : siftDown lt hi F r d = if b = true then siftDown lt hi F (2 * r + 1) (swp d (F + r) (F + (2 * r + 1))) else d := by
  rw [siftDown, dif_neg (by omega), if_neg (by rcases h1 with h1 | h1 <;> simp [h1]), h2]
  cases b <;> simp

set_option maxHeartbeats 4000000 in
set_option maxRecDepth 100000 in
theorem sift_at (h : Srt T rv vl vs gl gs lt n H S St) (lo hi F : Nat) (d : Array α) (w : World) (hH : St w d) (hlo : lo ≤ n) (hb : hi + F ≤ n) :
    Calls Tryd.prog 86 #[.iface T rv, .int .i64 lo, .int .i64 hi, .int .i64 F] w (SrtEnd S St (siftDown lt hi F lo d) w) := by
  have mL := h.mL
  have mS := h.mS
  have eL := h.enterL
  have eS := h.enterS
  have hsz := h.most
  have HD := Lib.hid (And.intro h hH)
  clear h hH
  go_enter Tryd.func86, Tryd.ntmps86
  go_wp2
  go_loopw [8] (fun vi wr => ∃ r : Nat, vi = .int .i64 r ∧ r ≤ n ∧ Hid (∃ dk, St wr dk ∧ Mod S w wr ∧ siftDown lt hi F r dk = siftDown lt hi F lo d)) (fun vi _ => n + 1 - (intOf vi).toNat)
  case atStart => exact ⟨lo, rfl, hlo, d, HD.out.2, Mod.refl _ _, rfl⟩
  case round =>
    obtain ⟨r, rfl, hrn, HR⟩ := hrel
    obtain ⟨dk, h1, h2, h3⟩ := HR.out
    have HO := Lib.hid (And.intro h1 (And.intro h2 h3))
    clear h1 h2 h3
    have r0 : Okd St wr := ⟨_, HO.out.1⟩
    have w1 : IntKind.i64.wrap (2 * (r : Int)) = 2 * (r : Int) := IntWalk.i64_in _ (by omega)
    have w2 : IntKind.i64.wrap (2 * (r : Int) + 1) = 2 * (r : Int) + 1 := IntWalk.i64_in _ (by omega)
    by_cases hc : 2 * r + 1 < hi
    · have hc' : ¬ (hi : Int) ≤ 2 * (r : Int) + 1 := by omega
      have w3 : IntKind.i64.wrap (2 * (r : Int) + 1 + 1) = 2 * (r : Int) + 1 + 1 := IntWalk.i64_in _ (by omega)
      have hl := fun (x y : Nat) (hx : x < n) (hy : y < n) (hxy : x ≠ y) w2 (hm : Mod (fun _ => False) wr w2) => HD.out.1.less w2 dk x y (HD.out.1.keep0 hm HO.out.1) hx hy hxy
      have hs := fun (x y : Nat) (hx : x < n) (hy : y < n) w2 (hm : Mod (fun _ => False) wr w2) => HD.out.1.swap w2 dk x y (HD.out.1.keep0 hm HO.out.1) hx hy
      have w4 : IntKind.i64.wrap ((F : Int) + (r : Int)) = (F : Int) + (r : Int) := IntWalk.i64_in _ (by omega)
      have w5 : IntKind.i64.wrap ((F : Int) + (2 * (r : Int) + 1)) = (F : Int) + (2 * (r : Int) + 1) := IntWalk.i64_in _ (by omega)
      have l1 := hl (F + (2 * r + 1)) (F + (2 * r + 1) + 1)
      have l2 := hl (F + r) (F + (2 * r + 1)) (by omega) (by omega) (by omega)
      have l3 := hl (F + r) (F + (2 * r + 2))
      have s2 := hs (F + r) (F + (2 * r + 1)) (by omega) (by omega)
      have s3 := hs (F + r) (F + (2 * r + 2))
      have e1 : ((F + (2 * r + 1) : Nat) : Int) = (F : Int) + (2 * (r : Int) + 1) := by omega
      have e2 : ((F + (2 * r + 1) + 1 : Nat) : Int) = (F : Int) + (2 * (r : Int) + 1) + 1 := by omega
      have e3 : ((F + r : Nat) : Int) = (F : Int) + (r : Int) := by omega
      have e4 : ((F + (2 * r + 2) : Nat) : Int) = (F : Int) + (2 * (r : Int) + 1 + 1) := by omega
      rw [e1, e2] at l1
      rw [e1, e3] at l2 s2
      rw [e3, e4] at l3 s3
      clear hl hs e1 e2 e3 e4
      by_cases h2 : 2 * r + 1 + 1 < hi
      · have h2' : 2 * (r : Int) + 1 + 1 < hi := by omega
        have l1 := l1 (by omega) (by omega) (by omega)
        have tok1 : True := trivial
        cases hv1 : lt dk[F + (2 * r + 1)]! dk[F + (2 * r + 1) + 1]! with
        | true =>
          rw [hv1] at l1
          have HA := Lib.hid l1
          cases hv : lt dk[F + r]! dk[F + (2 * r + 2)]! with
          | true =>
            rw [hv] at l3
            have HL := Lib.hid (l3 (by omega) (by omega) (by omega))
            have HS := Lib.hid (s3 (by omega) (by omega))
            clear l1 l2 l3 s2 s3
            go_wp2_with (first | (go_at_fn gl; have _t := tok1; clear _t tok1; refine (HA.out _ (Mod.refl _ _)).mono ?_; rintro e w3 ⟨rfl, hm3⟩; have r3 : Okd St w3 := ⟨_, HD.out.1.keep0 hm3 HO.out.1⟩; have HB := Lib.hid hm3; clear hm3) | (go_at_fn gl; refine (HL.out _ HB.out).mono ?_; rintro e w4 ⟨rfl, hm4⟩; have H3 := Lib.hid (HB.out.trans hm4); have r4 : Okd St w4 := ⟨_, HD.out.1.keep0 H3.out HO.out.1⟩; clear hm4) | (go_at_fn gs; refine (HS.out _ H3.out).mono ?_; rintro e w5 ⟨rfl, hs5, hm5⟩; have H4 := Lib.hid (And.intro hs5 ((none_sub H3.out).trans hm5)); clear hs5 hm5))
            go_roundw
            case rel => exact ⟨2 * r + 2, by congr 1, by omega, _, H4.out.1, HO.out.2.1.trans H4.out.2, by rw [← HO.out.2.2, sift_two h2 hv1 hv, if_pos rfl]⟩
            case measure => simp [intOf]; omega
          | false =>
            rw [hv] at l3
            have HL := Lib.hid (l3 (by omega) (by omega) (by omega))
            clear l1 l2 l3 s2 s3
            go_wp2_with (first | (go_at_fn gl; have _t := tok1; clear _t tok1; refine (HA.out _ (Mod.refl _ _)).mono ?_; rintro e w3 ⟨rfl, hm3⟩; have r3 : Okd St w3 := ⟨_, HD.out.1.keep0 hm3 HO.out.1⟩; have HB := Lib.hid hm3; clear hm3) | (go_at_fn gl; refine (HL.out _ HB.out).mono ?_; rintro e w4 ⟨rfl, hm4⟩; have H3 := Lib.hid (HB.out.trans hm4); have r4 : Okd St w4 := ⟨_, HD.out.1.keep0 H3.out HO.out.1⟩; clear hm4))
            go_end0
            exact ⟨rfl, by rw [← HO.out.2.2, sift_two h2 hv1 hv, if_neg (by decide)]; exact HD.out.1.keep0 H3.out HO.out.1, HO.out.2.1.trans (none_sub H3.out)⟩
        | false =>
          rw [hv1] at l1
          have HA := Lib.hid l1
          cases hv : lt dk[F + r]! dk[F + (2 * r + 1)]! with
          | true =>
            rw [hv] at l2
            have HL := Lib.hid l2
            have HS := Lib.hid s2
            clear l1 l2 l3 s2 s3
            go_wp2_with (first | (go_at_fn gl; have _t := tok1; clear _t tok1; refine (HA.out _ (Mod.refl _ _)).mono ?_; rintro e w3 ⟨rfl, hm3⟩; have r3 : Okd St w3 := ⟨_, HD.out.1.keep0 hm3 HO.out.1⟩; have HB := Lib.hid hm3; clear hm3) | (go_at_fn gl; refine (HL.out _ HB.out).mono ?_; rintro e w4 ⟨rfl, hm4⟩; have H3 := Lib.hid (HB.out.trans hm4); have r4 : Okd St w4 := ⟨_, HD.out.1.keep0 H3.out HO.out.1⟩; clear hm4) | (go_at_fn gs; refine (HS.out _ H3.out).mono ?_; rintro e w5 ⟨rfl, hs5, hm5⟩; have H4 := Lib.hid (And.intro hs5 ((none_sub H3.out).trans hm5)); clear hs5 hm5))
            go_roundw
            case rel => exact ⟨2 * r + 1, by congr 1, by omega, _, H4.out.1, HO.out.2.1.trans H4.out.2, by rw [← HO.out.2.2, sift_one hc (.inr hv1) hv, if_pos rfl]⟩
            case measure => simp [intOf]; omega
          | false =>
            rw [hv] at l2
            have HL := Lib.hid l2
            clear l1 l2 l3 s2 s3
            go_wp2_with (first | (go_at_fn gl; have _t := tok1; clear _t tok1; refine (HA.out _ (Mod.refl _ _)).mono ?_; rintro e w3 ⟨rfl, hm3⟩; have r3 : Okd St w3 := ⟨_, HD.out.1.keep0 hm3 HO.out.1⟩; have HB := Lib.hid hm3; clear hm3) | (go_at_fn gl; refine (HL.out _ HB.out).mono ?_; rintro e w4 ⟨rfl, hm4⟩; have H3 := Lib.hid (HB.out.trans hm4); have r4 : Okd St w4 := ⟨_, HD.out.1.keep0 H3.out HO.out.1⟩; clear hm4))
            go_end0
            exact ⟨rfl, by rw [← HO.out.2.2, sift_one hc (.inr hv1) hv, if_neg (by decide)]; exact HD.out.1.keep0 H3.out HO.out.1, HO.out.2.1.trans (none_sub H3.out)⟩
      · have h2' : ¬ 2 * (r : Int) + 1 + 1 < hi := by omega
        cases hv : lt dk[F + r]! dk[F + (2 * r + 1)]! with
        | true =>
          rw [hv] at l2
          have HL := Lib.hid l2
          have HS := Lib.hid s2
          clear l1 l2 l3 s2 s3
          go_wp2_with (first | (go_at_fn gl; refine (HL.out _ (Mod.refl _ _)).mono ?_; rintro e w3 ⟨rfl, hm3⟩; have r3 : Okd St w3 := ⟨_, HD.out.1.keep0 hm3 HO.out.1⟩; have H3 := Lib.hid hm3; clear hm3) | (go_at_fn gs; refine (HS.out _ H3.out).mono ?_; rintro e w5 ⟨rfl, hs5, hm5⟩; have H4 := Lib.hid (And.intro hs5 ((none_sub H3.out).trans hm5)); clear hs5 hm5))
          go_roundw
          case rel => exact ⟨2 * r + 1, by congr 1, by omega, _, H4.out.1, HO.out.2.1.trans H4.out.2, by rw [← HO.out.2.2, sift_one hc (.inl h2) hv, if_pos rfl]⟩
          case measure => simp [intOf]; omega
        | false =>
          rw [hv] at l2
          have HL := Lib.hid l2
          clear l1 l2 l3 s2 s3
          go_wp2_with (first | (go_at_fn gl; refine (HL.out _ (Mod.refl _ _)).mono ?_; rintro e w3 ⟨rfl, hm3⟩; have r3 : Okd St w3 := ⟨_, HD.out.1.keep0 hm3 HO.out.1⟩; have H3 := Lib.hid hm3; clear hm3))
          go_end0
          exact ⟨rfl, by rw [← HO.out.2.2, sift_one hc (.inl h2) hv, if_neg (by decide)]; exact HD.out.1.keep0 H3.out HO.out.1, HO.out.2.1.trans (none_sub H3.out)⟩
    · have hc' : (hi : Int) ≤ 2 * (r : Int) + 1 := by omega
      go_wp2
      go_end0
      exact ⟨rfl, by rw [← HO.out.2.2, sift_stop hc]; exact HO.out.1, HO.out.2.1⟩
end Go.Proofs.YtpamoleocjdjiaaDoor

namespace Go.Proofs.YtpamoleocjdjiaaDoor
open Go.RowKit Lox Go.Sort
set_option linter.unusedVariables false
variable {α : Type} [Inhabited α] {T : TypeId} {rv vl vs : Value} {gl gs n H : Nat} {lt : α → α → Bool} {S : Nat → Prop} {St : World → Array α → Prop}

set_option maxHeartbeats 800000 in
set_option maxRecDepth 100000 in
theorem heap_at (h : Srt T rv vl vs gl gs lt n H S St) (a b : Nat) (d : Array α) (w : World) (hH : St w d) (hab : a < b) (hb : b ≤ n) :
    Calls Tryd.prog 72 #[.iface T rv, .int .i64 a, .int .i64 b] w (SrtEnd S St (heapSort lt d a b) w) := by
  have mS := h.mS
  have eS := h.enterS
  have hsz := h.most
  have HD := Lib.hid (And.intro h hH)
  clear h hH
  obtain ⟨m, hm⟩ : ∃ m, m = b - a := ⟨_, rfl⟩
  obtain ⟨t, ht⟩ : ∃ t, t = (m - 1) / 2 := ⟨_, rfl⟩
  have em : ((m : Nat) : Int) = (b : Int) - (a : Int) := by omega
  have w1 : IntKind.i64.wrap ((b : Int) - (a : Int)) = (b : Int) - (a : Int) := IntWalk.i64_in _ (by omega)
  have w3 : IntKind.i64.wrap ((b : Int) - (a : Int) - 1) = (b : Int) - (a : Int) - 1 := IntWalk.i64_in _ (by omega)
  have w2 : ((b : Int) - (a : Int) - 1) / 2 = (t : Int) := by omega
  have w2' : ((b - a - 1 : Nat) : Int) / 2 = (t : Int) := by omega
  have EM := Lib.hid em
  clear em
  go_enter Tryd.func72, Tryd.ntmps72
  go_wp2
  go_loopw [9] (fun vi wr => ∃ k : Nat, vi = .int .i64 ((k : Int) - 1) ∧ k ≤ m ∧ Hid (∃ dk, St wr dk ∧ Mod S w wr ∧ heapBuild lt m a k dk = heapBuild lt m a (t + 1) d)) (fun vi _ => (intOf vi + 1).toNat)
  case atStart => exact ⟨t + 1, by congr 1; omega, by omega, d, HD.out.2, Mod.refl _ _, rfl⟩
  case round =>
    obtain ⟨k, rfl, hkm, HR⟩ := hrel
    obtain ⟨dk, h1, h2, h3⟩ := HR.out
    have HO := Lib.hid (And.intro h1 (And.intro h2 h3))
    clear h1 h2 h3
    by_cases hk : 0 < k
    · have hk' : (0 : Int) ≤ (k : Int) - 1 := by omega
      have hs := sift_at HD.out.1 (k - 1) m a dk wr HO.out.1 (by omega) (by omega)
      rw [show (((k - 1 : Nat) : Int)) = (k : Int) - 1 by omega, EM.out] at hs
      have HS := Lib.hid hs
      clear hs
      go_wp2_with (go_at_call 86; (with_reducible refine HS.out.mono ?_); rintro e w4 ⟨rfl, hs4, hm4⟩; have H4 := Lib.hid (And.intro hs4 hm4); clear hs4 hm4)
      go_roundw
      case rel =>
        refine ⟨k - 1, ?_, by omega, _, H4.out.1, HO.out.2.1.trans H4.out.2, by rw [← HO.out.2.2]; obtain ⟨k', rfl⟩ : ∃ k', k = k' + 1 := ⟨k - 1, by omega⟩; rfl⟩
        congr 1
        omega
      case measure => simp [intOf]; omega
    · obtain rfl : k = 0 := by omega
      go_wp2
      go_loopw [10] (fun vi w5 => ∃ k : Nat, vi = .int .i64 ((k : Int) - 1) ∧ k ≤ m ∧ Hid (∃ dj, St w5 dj ∧ Mod S w w5 ∧ heapPop lt a k dj = heapPop lt a m dk)) (fun vi _ => (intOf vi + 1).toNat)
      case atStart => exact ⟨m, by rw [EM.out], Nat.le_refl _, dk, HO.out.1, HO.out.2.1, rfl⟩
      case round =>
        obtain ⟨k, rfl, hkm2, HJ⟩ := hrel
        obtain ⟨dj, k1, k2, k3⟩ := HJ.out
        have HI := Lib.hid (And.intro k1 (And.intro k2 k3))
        clear k1 k2 k3
        have r0 : Okd St wr := ⟨_, HI.out.1⟩
        by_cases hk : 0 < k
        · have hk' : (0 : Int) ≤ (k : Int) - 1 := by omega
          have w4 : IntKind.i64.wrap ((a : Int) + ((k : Int) - 1)) = (a : Int) + ((k : Int) - 1) := IntWalk.i64_in _ (by omega)
          have hs := HD.out.1.swap _ dj a (a + (k - 1)) HI.out.1 (by omega) (by omega)
          rw [show (((a + (k - 1) : Nat) : Int)) = (a : Int) + ((k : Int) - 1) by omega] at hs
          have HS := Lib.hid hs
          have HF : Hid (∀ w6, St w6 (swp dj a (a + (k - 1))) → Calls Tryd.prog 86 #[.iface T rv, .int .i64 0, .int .i64 ((k : Int) - 1), .int .i64 a] w6 (SrtEnd S St (siftDown lt (k - 1) a 0 (swp dj a (a + (k - 1)))) w6)) := fun w6 h6 => by
            have := sift_at HD.out.1 0 (k - 1) a _ w6 h6 (by omega) (by omega)
            rw [show (((k - 1 : Nat) : Int)) = (k : Int) - 1 by omega] at this
            exact this
          clear hs
          go_wp2_with (first
            | (go_at_fn gs; refine HS.out.mono ?_; rintro e w6 ⟨rfl, hs6, hm6⟩; have H6 := Lib.hid (And.intro hs6 hm6); clear hs6 hm6)
            | (go_at_call 86; (with_reducible refine (HF.out _ H6.out.1).mono ?_); rintro e w7 ⟨rfl, hs7, hm7⟩; have H7 := Lib.hid (And.intro hs7 hm7); clear hs7 hm7))
          go_roundw
          case rel =>
            refine ⟨k - 1, ?_, by omega, _, H7.out.1, (HI.out.2.1.trans H6.out.2).trans H7.out.2, by rw [← HI.out.2.2]; obtain ⟨k', rfl⟩ : ∃ k', k = k' + 1 := ⟨k - 1, by omega⟩; rfl⟩
            congr 1
            omega
          case measure => simp [intOf]; omega
        · obtain rfl : k = 0 := by omega
          go_wp2
          go_end0
          refine ⟨rfl, ?_, HI.out.2.1⟩
          have e1 := HI.out.2.2
          have e2 := HO.out.2.2
          have e3 : heapSort lt d a b = dj := by
            unfold heapSort
            rw [← hm, ← ht, ← e2]
            exact e1.symm
          rw [e3]
          exact HI.out.1
end Go.Proofs.YtpamoleocjdjiaaDoor

namespace Go.Proofs.YtpamoleocjdjiaaDoor
open Go.RowKit Lox Go.Sort
set_option linter.unusedVariables false
variable {α : Type} [Inhabited α] {T : TypeId} {rv vl vs : Value} {gl gs n H : Nat} {lt : α → α → Bool} {S : Nat → Prop} {St : World → Array α → Prop}

theorem rev_go {i j : Nat} {d : Array α} (h : i < j) : reverseLoop i j d = reverseLoop (i + 1) (j - 1) (swp d i j) := by rw [reverseLoop, if_pos h]
theorem rev_stop {i j : Nat} {d : Array α} (h : ¬ i < j) : reverseLoop i j d = d := by rw [reverseLoop, if_neg h]

set_option maxHeartbeats 4000000 in
set_option maxRecDepth 100000 in
theorem reverse_at (h : Srt T rv vl vs gl gs lt n H S St) (a b : Nat) (d : Array α) (w : World) (hH : St w d) (hab : a < b) (hb : b ≤ n) :
    Calls Tryd.prog 75 #[.iface T rv, .int .i64 a, .int .i64 b] w (SrtEnd S St (reverseRange d a b) w) := by
  have mS := h.mS
  have eS := h.enterS
  have hsz := h.most
  have HD := Lib.hid (And.intro h hH)
  clear h hH
  go_enter Tryd.func75, Tryd.ntmps75
  go_wp2
  go_loopw [6, 7] (fun vi vj wr => ∃ i j : Nat, vi = .int .i64 i ∧ vj = .int .i64 j ∧ i ≤ n ∧ j < n ∧ Hid (∃ dk, St wr dk ∧ Mod S w wr ∧ reverseLoop i j dk = reverseLoop a (b - 1) d)) (fun _ vj _ => (intOf vj).toNat)
  case atStart => exact ⟨a, b - 1, rfl, by go_num, by omega, by omega, d, HD.out.2, Mod.refl _ _, rfl⟩
  case round =>
    obtain ⟨i, j, rfl, rfl, hin, hjn, HR⟩ := hrel
    obtain ⟨dk, h1, h2, h3⟩ := HR.out
    have HO := Lib.hid (And.intro h1 (And.intro h2 h3))
    clear h1 h2 h3
    have r0 : Okd St wr := ⟨_, HO.out.1⟩
    by_cases hlt : i < j
    · have hlt' : (i : Int) < j := by omega
      have HS := Lib.hid (HD.out.1.swap wr dk i j HO.out.1 (by omega) hjn)
      go_wp2_with (go_at_fn gs; refine HS.out.mono ?_; rintro e w4 ⟨rfl, hs4, hm4⟩; have H4 := Lib.hid (And.intro hs4 hm4); clear hs4 hm4)
      go_roundw
      case rel => exact ⟨i + 1, j - 1, by go_num, by congr 1; omega, by omega, by omega, _, H4.out.1, HO.out.2.1.trans H4.out.2, by rw [← HO.out.2.2, rev_go hlt]⟩
      case measure => simp [intOf]; omega
    · have hlt' : ¬ (i : Int) < j := by omega
      go_wp2
      go_end0
      exact ⟨rfl, by unfold reverseRange; rw [← HO.out.2.2, rev_stop hlt]; exact HO.out.1, HO.out.2.1⟩
end Go.Proofs.YtpamoleocjdjiaaDoor

namespace Go.Proofs.YtpamoleocjdjiaaDoor
open Go.RowKit Lox Go.Sort
set_option linter.unusedVariables false
variable {α : Type} [Inhabited α] {T : TypeId} {rv vl vs : Value} {gl gs n H : Nat} {lt : α → α → Bool} {S : Nat → Prop} {St : World → Array α → Prop}

/-- The list and the counter of swaps, in a block of its own. -/
structure Cnt (H : Nat) (St : World → Array α → Prop) (d : Array α) (sb s : Nat) (w : World) : Prop where
  st : St w d
  blk : Blk w sb 3 [.int .i64 s]
  far : H ≤ sb

theorem Cnt.mod {d : Array α} {sb s : Nat} {w w' : World} (c : Cnt H St d sb s w) (h : Srt T rv vl vs gl gs lt n H S St) (hm : Mod (fun _ => False) w w') : Cnt H St d sb s w' := ⟨h.keep0 hm c.st, c.blk.mod hm (fun h => h), c.far⟩

theorem sb_high {H sb : Nat} {w w' : World} (hf : H ≤ sb) (h : Mod (fun k => k = sb) w w') : Mod (fun k => H ≤ k) w w' := ⟨h.os, h.tape, h.output, h.size, fun k hk hn => h.block k hk (fun e => hn (by rw [e]; exact hf))⟩

set_option maxHeartbeats 2000000 in
set_option maxRecDepth 100000 in
theorem order2_at (h : Srt T rv vl vs gl gs lt n H S St) (a b s sb : Nat) (d : Array α) (w : World) (hc : Cnt H St d sb s w) (ha : a < n) (hb : b < n) (hab : a ≠ b) (hs : s ≤ 1000) :
    Calls Tryd.prog 93 #[.iface T rv, .int .i64 a, .int .i64 b, .pointer (some ⟨sb, 0, none⟩)] w fun e w' => ∃ x y s' : Nat, order2 lt d a b s = (x, y, s') ∧ e = .returned (.tuple #[.int .i64 x, .int .i64 y]) ∧ Cnt H St d sb s' w' ∧ Mod (fun k => k = sb) w w' ∧ x < n ∧ y < n ∧ s' ≤ s + 1 ∧ ((x = a ∧ y = b) ∨ (x = b ∧ y = a)) := by
  have mL := h.mL
  have r0 : Okd St w := ⟨_, hc.st⟩
  have eL := h.enterL
  have hl := h.less w d b a hc.st hb ha (Ne.symm hab)
  have HD := Lib.hid (And.intro h hc)
  clear h hc
  cases hv : lt d[b]! d[a]! with
  | true =>
    rw [hv] at hl
    have HL := Lib.hid hl
    clear hl
    have w1 : IntKind.i64.wrap ((s : Int) + 1) = (s : Int) + 1 := IntWalk.i64_in _ (by omega)
    go_enter Tryd.func93, Tryd.ntmps93
    go_wp2_with (go_at_fn gl; refine HL.out.mono ?_; rintro e w3 ⟨rfl, hm3⟩; have hc3 := HD.out.2.mod HD.out.1 hm3; have c0 := hc3.blk.at (i := 0) rfl; have z0 := hc3.blk.frozen 0; have H3 := Lib.hid (And.intro hc3 hm3); clear hc3 hm3)
    go_ret2
    have hm : Mod (fun k => k = sb) w3 (w3.setCell ⟨sb, 0, none⟩ (.int .i64 ((s : Int) + 1))) := (Mod.refl (fun k => k = sb) _).set (p := ⟨sb, 0, none⟩) (.inl rfl) _
    exact ⟨b, a, s + 1, by unfold order2; rw [if_pos hv], rfl, ⟨HD.out.1.keep _ _ _ (sb_high H3.out.1.far hm) H3.out.1.st, H3.out.1.blk.set 0 _, H3.out.1.far⟩, (none_sub H3.out.2).trans hm, hb, ha, Nat.le_refl _, .inr ⟨rfl, rfl⟩⟩
  | false =>
    rw [hv] at hl
    have HL := Lib.hid hl
    clear hl
    go_enter Tryd.func93, Tryd.ntmps93
    go_wp2_with (go_at_fn gl; refine HL.out.mono ?_; rintro e w3 ⟨rfl, hm3⟩; have H3 := Lib.hid (And.intro (HD.out.2.mod HD.out.1 hm3) hm3); clear hm3)
    go_ret2
    exact ⟨a, b, s, by unfold order2; rw [if_neg (by rw [hv]; decide)], rfl, H3.out.1, none_sub H3.out.2, ha, hb, by omega, .inl ⟨rfl, rfl⟩⟩

set_option maxHeartbeats 2000000 in
set_option maxRecDepth 100000 in
theorem median_at (h : Srt T rv vl vs gl gs lt n H S St) (a b c s sb : Nat) (d : Array α) (w : World) (hc : Cnt H St d sb s w) (ha : a < n) (hb : b < n) (hcn : c < n) (hab : a ≠ b) (hbc : b ≠ c) (hac : a ≠ c) (hs : s ≤ 900) :
    Calls Tryd.prog 90 #[.iface T rv, .int .i64 a, .int .i64 b, .int .i64 c, .pointer (some ⟨sb, 0, none⟩)] w fun e w' => ∃ x s' : Nat, median lt d a b c s = (x, s') ∧ e = .returned (.int .i64 x) ∧ Cnt H St d sb s' w' ∧ Mod (fun k => k = sb) w w' ∧ x < n ∧ s' ≤ s + 3 := by
  have HD := Lib.hid (And.intro h hc)
  clear h hc
  go_enter Tryd.func90, Tryd.ntmps90
  go_upto_region 2 with (go_at_call 93; refine (order2_at HD.out.1 a b s sb d w HD.out.2 ha hb hab (by omega)).mono ?_; rintro _ w1 ⟨x1, y1, s1, e1, rfl, hc1, hm1, hx1, hy1, hs1, hp1⟩; have H1 := Lib.hid (And.intro e1 (And.intro hc1 hm1)); clear e1 hc1 hm1)
  go_upto_region 3 with (go_at_call 93; refine (order2_at HD.out.1 y1 c s1 sb d w1 H1.out.2.1 hy1 hcn (by omega) (by omega)).mono ?_; rintro _ w2 ⟨x2, y2, s2, e2, rfl, hc2, hm2, hx2, hy2, hs2, hp2⟩; have H2 := Lib.hid (And.intro e2 (And.intro hc2 hm2)); clear e2 hc2 hm2)
  go_wp2_with (go_at_call 93; refine (order2_at HD.out.1 x1 x2 s2 sb d w2 H2.out.2.1 hx1 hx2 (by omega) (by omega)).mono ?_; rintro _ w3 ⟨x3, y3, s3, e3, rfl, hc3, hm3, hx3, hy3, hs3, _⟩; have H3 := Lib.hid (And.intro e3 (And.intro hc3 hm3)); clear e3 hc3 hm3)
  go_ret
  exact ⟨y3, s3, by unfold median; rw [H1.out.1]; show (let r2 := order2 lt d y1 c s1; let r3 := order2 lt d x1 r2.1 r2.2.2; (r3.2.1, r3.2.2)) = _; rw [H2.out.1]; show ((order2 lt d x1 x2 s2).2.1, (order2 lt d x1 x2 s2).2.2) = _; rw [H3.out.1], rfl, H3.out.2.1, (H1.out.2.2.trans H2.out.2.2).trans H3.out.2.2, hy3, by omega⟩

set_option maxHeartbeats 2000000 in
set_option maxRecDepth 100000 in
theorem medianAdj_at (h : Srt T rv vl vs gl gs lt n H S St) (a s sb : Nat) (d : Array α) (w : World) (hc : Cnt H St d sb s w) (ha : 0 < a) (hb : a + 1 < n) (hs : s ≤ 900) :
    Calls Tryd.prog 89 #[.iface T rv, .int .i64 a, .pointer (some ⟨sb, 0, none⟩)] w fun e w' => ∃ x s' : Nat, medianAdjacent lt d a s = (x, s') ∧ e = .returned (.int .i64 x) ∧ Cnt H St d sb s' w' ∧ Mod (fun k => k = sb) w w' ∧ x < n ∧ s' ≤ s + 3 := by
  have hm := median_at h (a - 1) a (a + 1) s sb d w hc (by omega) (by omega) hb (by omega) (by omega) (by omega) hs
  rw [show (((a - 1 : Nat) : Int)) = (a : Int) - 1 by omega, show (((a + 1 : Nat) : Int)) = (a : Int) + 1 by omega] at hm
  have HM := Lib.hid hm
  have hsz := h.most
  clear hm h hc
  go_enter Tryd.func89, Tryd.ntmps89
  go_wp2_with (go_at_call 90; refine HM.out.mono ?_; rintro _ w3 ⟨x, s', e1, rfl, hc1, hm1, hx, hs1⟩; have H1 := Lib.hid (And.intro e1 (And.intro hc1 hm1)); clear e1 hc1 hm1)
  go_ret
  exact ⟨x, s', H1.out.1, rfl, H1.out.2.1, H1.out.2.2, hx, hs1⟩
end Go.Proofs.YtpamoleocjdjiaaDoor

namespace Go.Proofs.YtpamoleocjdjiaaDoor
open Go.RowKit Lox Go.Sort
set_option linter.unusedVariables false
variable {α : Type} [Inhabited α] {T : TypeId} {rv vl vs : Value} {gl gs n H : Nat} {lt : α → α → Bool} {S : Nat → Prop} {St : World → Array α → Prop}

theorem pv_of_beq {x y : Int} (h : (x == y) = true) : x = y := by simpa using h
theorem ne_of_bne {x y : Int} (h : (x == y) = false) : x ≠ y := by simpa using h

theorem high_none {w W w' : World} {sb : Nat} (e : sb = w.heap.size) (h1 : Mod (fun _ => False) w W) (h2 : Mod (fun k => k = sb) W w') : Mod (fun _ => False) w w' := h1.trans' h2 fun i hi h => by omega

/-- The counter's way to a hint. -/
theorem hint_way {p s : Nat} {Hc : Int} (hHc : Hc = hintCode (hintOf s)) : (s = 0 → Hc = 1) ∧ (s = 12 → Hc = 2) ∧ (s ≠ 0 → s ≠ 12 → Hc = 0) :=
  ⟨fun h => by rw [hHc, h]; rfl, fun h => by rw [hHc, h]; rfl, fun h1 h2 => by rw [hHc]; unfold hintOf; rw [if_neg h1, if_neg h2]; rfl⟩

set_option maxHeartbeats 2000000 in
set_option maxRecDepth 100000 in
theorem pivot_at (h : Srt T rv vl vs gl gs lt n H S St) (a b : Nat) (d : Array α) (w : World) (hH : St w d) (hl : 12 < b - a) (hb : b ≤ n) :
    Calls Tryd.prog 74 #[.iface T rv, .int .i64 a, .int .i64 b] w fun e w' => e = .returned (.tuple #[.int .i64 (choosePivot lt d a b).1, .int .i64 (hintCode (choosePivot lt d a b).2)]) ∧ St w' d ∧ Mod (fun _ => False) w w' := by
  have hsz := h.most
  have HD := Lib.hid (And.intro h hH)
  clear h hH
  rw [choosePivot_eq]
  obtain ⟨I, hI⟩ : ∃ I : Nat, I = a + (b - a) / 4 * 1 := ⟨_, rfl⟩
  obtain ⟨J, hJ⟩ : ∃ J : Nat, J = a + (b - a) / 4 * 2 := ⟨_, rfl⟩
  obtain ⟨K, hK⟩ : ∃ K : Nat, K = a + (b - a) / 4 * 3 := ⟨_, rfl⟩
  have eI : ((a : Int) + ((b : Int) - (a : Int)) / 4) = (I : Int) := by omega
  have eJ : ((a : Int) + ((b : Int) - (a : Int)) / 4 * 2) = (J : Int) := by omega
  have eK : ((a : Int) + ((b : Int) - (a : Int)) / 4 * 3) = (K : Int) := by omega
  have bI : 0 < I ∧ I + 1 < n := by omega
  have bJ : 0 < J ∧ J + 1 < n := by omega
  have bK : 0 < K ∧ K + 1 < n := by omega
  have h8 : b - a ≥ 8 := by omega
  have h8z : (8 : Int) ≤ (b : Int) - (a : Int) := by omega
  have hlo : H ≤ w.heap.size := HD.out.1.low _ _ HD.out.2
  obtain ⟨sb, hsb⟩ : ∃ sb, sb = w.heap.size := ⟨_, rfl⟩
  have HC : Hid (Cnt H St d sb 0 (w.alloc (.cells #[.int .i64 0] 3)) ∧ Mod (fun _ => False) w (w.alloc (.cells #[.int .i64 0] 3))) := ⟨⟨HD.out.1.keep0 ((Mod.refl _ _).alloc _) HD.out.2, by rw [hsb]; exact Blk.new' w #[.int .i64 0] 3, by omega⟩, (Mod.refl _ _).alloc _⟩
  obtain ⟨p, s, hraw⟩ : ∃ p s, rawPivot lt d a b = (p, s) := ⟨_, _, rfl⟩
  rw [hraw]
  obtain ⟨Hc, hHc⟩ : ∃ Hc : Int, Hc = hintCode (hintOf s) := ⟨_, rfl⟩
  obtain ⟨hh0, hh12, hhx⟩ := hint_way (p := p) hHc
  show Calls Tryd.prog _ _ w fun e w' => e = .returned (.tuple #[.int .i64 (p : Int), .int .i64 (hintCode (hintOf s))]) ∧ St w' d ∧ Mod (fun _ => False) w w'
  rw [← hHc]
  by_cases h50 : b - a ≥ 50
  · have h50z : (50 : Int) ≤ (b : Int) - (a : Int) := by omega
    obtain ⟨i1, s1, h1⟩ : ∃ i1 s1, medianAdjacent lt d I 0 = (i1, s1) := ⟨_, _, rfl⟩
    obtain ⟨j1, s2, h2⟩ : ∃ j1 s2, medianAdjacent lt d J s1 = (j1, s2) := ⟨_, _, rfl⟩
    obtain ⟨k1, s3, h3⟩ : ∃ k1 s3, medianAdjacent lt d K s2 = (k1, s3) := ⟨_, _, rfl⟩
    have h4 : median lt d i1 j1 k1 s3 = (p, s) := by rw [← hraw]; simp only [rawPivot, if_pos h8, if_pos h50, ← hI, ← hJ, ← hK, h1, h2, h3]
    have m1 := medianAdjacent_mem lt d I 0; rw [h1] at m1
    have m2 := medianAdjacent_mem lt d J s1; rw [h2] at m2
    have m3 := medianAdjacent_mem lt d K s2; rw [h3] at m3
    have n1 := medianAdjacent_count lt d I 0; rw [h1] at n1
    have n2 := medianAdjacent_count lt d J s1; rw [h2] at n2
    have n3 := medianAdjacent_count lt d K s2; rw [h3] at n3
    simp only [] at m1 m2 m3 n1 n2 n3
    have c1 : Calls Tryd.prog 89 #[.iface T rv, .int .i64 (I : Int), .pointer (some ⟨sb, 0, none⟩)] (w.alloc (.cells #[.int .i64 0] 3)) fun e w' => e = .returned (.int .i64 (i1 : Int)) ∧ Cnt H St d sb s1 w' ∧ Mod (fun _ => False) w w' :=
      (medianAdj_at HD.out.1 I 0 sb d _ HC.out.1 bI.1 bI.2 (by omega)).mono fun e w' ⟨x, s', e1, he, hc, hm, _, _⟩ => by rw [h1] at e1; cases e1; exact ⟨he, hc, high_none hsb HC.out.2 hm⟩
    have c2 : ∀ W, Cnt H St d sb s1 W → Mod (fun _ => False) w W → Calls Tryd.prog 89 #[.iface T rv, .int .i64 (J : Int), .pointer (some ⟨sb, 0, none⟩)] W fun e w' => e = .returned (.int .i64 (j1 : Int)) ∧ Cnt H St d sb s2 w' ∧ Mod (fun _ => False) w w' := fun W hc hm =>
      (medianAdj_at HD.out.1 J s1 sb d _ hc bJ.1 bJ.2 (by omega)).mono fun e w' ⟨x, s', e1, he, hc', hm', _, _⟩ => by rw [h2] at e1; cases e1; exact ⟨he, hc', high_none hsb hm hm'⟩
    have c3 : ∀ W, Cnt H St d sb s2 W → Mod (fun _ => False) w W → Calls Tryd.prog 89 #[.iface T rv, .int .i64 (K : Int), .pointer (some ⟨sb, 0, none⟩)] W fun e w' => e = .returned (.int .i64 (k1 : Int)) ∧ Cnt H St d sb s3 w' ∧ Mod (fun _ => False) w w' := fun W hc hm =>
      (medianAdj_at HD.out.1 K s2 sb d _ hc bK.1 bK.2 (by omega)).mono fun e w' ⟨x, s', e1, he, hc', hm', _, _⟩ => by rw [h3] at e1; cases e1; exact ⟨he, hc', high_none hsb hm hm'⟩
    have c4 : ∀ W, Cnt H St d sb s3 W → Mod (fun _ => False) w W → Calls Tryd.prog 90 #[.iface T rv, .int .i64 (i1 : Int), .int .i64 (j1 : Int), .int .i64 (k1 : Int), .pointer (some ⟨sb, 0, none⟩)] W fun e w' => e = .returned (.int .i64 (p : Int)) ∧ Cnt H St d sb s w' ∧ Mod (fun _ => False) w w' := fun W hc hm =>
      (median_at HD.out.1 i1 j1 k1 s3 sb d _ hc (by omega) (by omega) (by omega) (by omega) (by omega) (by omega) (by omega)).mono fun e w' ⟨x, s', e1, he, hc', hm', _, _⟩ => by rw [h4] at e1; cases e1; exact ⟨he, hc', high_none hsb hm hm'⟩
    have D1 := Lib.hid c1
    have D2 := Lib.hid c2
    have D3 := Lib.hid c3
    have D4 := Lib.hid c4
    clear hHc hraw h1 h2 h3 h4 hI hJ hK m1 m2 m3 c1 c2 c3 c4
    subst hsb
    go_enter Tryd.func74, Tryd.ntmps74
    go_wp2_with (first
      | (go_at_call_of 89 (Value.int .i64 (I : Int)); refine D1.out.mono ?_; rintro e w1 ⟨rfl, k1, k2⟩; have K1 := Lib.hid (And.intro k1 k2); clear k1 k2)
      | (go_at_call_of 89 (Value.int .i64 (J : Int)); refine (D2.out _ K1.out.1 K1.out.2).mono ?_; rintro e w2 ⟨rfl, k1, k2⟩; have K2 := Lib.hid (And.intro k1 k2); clear k1 k2)
      | (go_at_call_of 89 (Value.int .i64 (K : Int)); refine (D3.out _ K2.out.1 K2.out.2).mono ?_; rintro e w3 ⟨rfl, k1, k2⟩; have K3 := Lib.hid (And.intro k1 k2); clear k1 k2)
      | (go_at_call 90; refine (D4.out _ K3.out.1 K3.out.2).mono ?_; rintro e w4 ⟨rfl, k1, k2⟩; have c4 := k1.blk.at (i := 0) rfl; have K4 := Lib.hid (And.intro k1 k2); clear k1 k2))
    all_goals
      go_ret2
      refine ⟨?_, K4.out.1.st, K4.out.2⟩
      first
        | (have e0 : (s : Int) = 0 := pv_of_beq (by assumption)
           rw [hh0 (by omega)]; rfl)
        | (have e1 : (s : Int) = 12 := pv_of_beq (by assumption)
           rw [hh12 (by omega)]; rfl)
        | (have e0 : (s : Int) ≠ 0 := ne_of_bne (by assumption)
           have e1 : (s : Int) ≠ 12 := ne_of_bne (by assumption)
           rw [hhx (by omega) (by omega)]; rfl)
        | (rw [hh0 (by omega)]; rfl)
  · have h50z : ¬ (50 : Int) ≤ (b : Int) - (a : Int) := by omega
    have h4 : median lt d I J K 0 = (p, s) := by rw [← hraw]; simp only [rawPivot, if_pos h8, if_neg h50, ← hI, ← hJ, ← hK]
    have c4 : Calls Tryd.prog 90 #[.iface T rv, .int .i64 (I : Int), .int .i64 (J : Int), .int .i64 (K : Int), .pointer (some ⟨sb, 0, none⟩)] (w.alloc (.cells #[.int .i64 0] 3)) fun e w' => e = .returned (.int .i64 (p : Int)) ∧ Cnt H St d sb s w' ∧ Mod (fun _ => False) w w' :=
      (median_at HD.out.1 I J K 0 sb d _ HC.out.1 (by omega) (by omega) (by omega) (by omega) (by omega) (by omega) (by omega)).mono fun e w' ⟨x, s', e1, he, hc', hm', _, _⟩ => by rw [h4] at e1; cases e1; exact ⟨he, hc', high_none hsb HC.out.2 hm'⟩
    have D4 := Lib.hid c4
    clear hHc hraw h4 hI hJ hK c4
    subst hsb
    go_enter Tryd.func74, Tryd.ntmps74
    go_wp2_with (go_at_call 90; refine D4.out.mono ?_; rintro e w4 ⟨rfl, k1, k2⟩; have c4 := k1.blk.at (i := 0) rfl; have K4 := Lib.hid (And.intro k1 k2); clear k1 k2)
    all_goals
      go_ret2
      refine ⟨?_, K4.out.1.st, K4.out.2⟩
      first
        | (have e0 : (s : Int) = 0 := pv_of_beq (by assumption)
           rw [hh0 (by omega)]; rfl)
        | (have e1 : (s : Int) = 12 := pv_of_beq (by assumption)
           rw [hh12 (by omega)]; rfl)
        | (have e0 : (s : Int) ≠ 0 := ne_of_bne (by assumption)
           have e1 : (s : Int) ≠ 12 := ne_of_bne (by assumption)
           rw [hhx (by omega) (by omega)]; rfl)
        | (rw [hh0 (by omega)]; rfl)
end Go.Proofs.YtpamoleocjdjiaaDoor

namespace Go.Proofs.YtpamoleocjdjiaaDoor
open Go.RowKit Lox Go.Sort
set_option linter.unusedVariables false
variable {α : Type} [Inhabited α] {T : TypeId} {rv vl vs : Value} {gl gs n H : Nat} {lt : α → α → Bool} {S : Nat → Prop} {St : World → Array α → Prop}

omit [Inhabited α] in
theorem AtS.step {w w1 w2 : World} {d d' : Array α} (h : AtS S St w d w1) (k : AtS S St w1 d' w2) : AtS S St w d' w2 := ⟨k.1, h.2.trans k.2⟩

set_option maxHeartbeats 12800000 in
set_option maxRecDepth 1000000 in
theorem pdq_at (h : Srt T rv vl vs gl gs lt n H S St) (hO : SWO lt) (hn : n < 65536) :
    ∀ (N a b limit : Nat) (d : Array α) (w : World), b - a < N → St w d → a ≤ b → b ≤ n → limit < 4611686018427387904 → Below lt a b d →
    Calls Tryd.prog 62 #[.iface T rv, .int .i64 a, .int .i64 b, .int .i64 limit] w fun e w' => e = .returned (.tuple #[]) ∧ AtS S St w (pdq lt d a b limit true true) w' := by
  have mL := h.mL
  have mS := h.mS
  have eL := h.enterL
  have eS := h.enterS
  have LC := Lib.hid (fun w => less_at h (w := w))
  have HD := Lib.hid h
  have SZ : Hid (∀ (w w' : World) (dk : Array α), AtS S St w dk w' → dk.size = n) := fun w w' dk hA => h.size _ _ hA.1
  clear h
  intro N
  induction N with
  | zero => intro _ _ _ _ _ h; exact absurd h (Nat.not_lt_zero _)
  | succ N ih =>
    intro a b limit d w hN hH hab hb hlimit hBel0
    have hd0 : d.size = n := HD.out.size _ _ hH
    have IH := Lib.hid ih
    clear ih
    have HS : Hid (AtS S St w d w) := ⟨hH, Mod.refl _ _⟩
    clear hH
    go_enter Tryd.func62, Tryd.ntmps62
    go_wp2
    go_loopg [1, 2, 3, 8, 9] (b - a) (fun k s1 s2 s3 s8 s9 wr => ∃ (a' b' lim : Nat) (wb wp : Bool) (dk : Array α), s1 = .int .i64 a' ∧ s2 = .int .i64 b' ∧ s3 = .int .i64 lim ∧ s8 = .bool wb ∧ s9 = .bool wp ∧
      a' ≤ b' ∧ b' ≤ n ∧ b' - a' ≤ k ∧ k ≤ b - a ∧ lim ≤ limit ∧ Hid (Below lt a' b' dk) ∧ Hid (AtS S St w dk wr) ∧ Hid (pdq lt dk a' b' lim wb wp = pdq lt d a b limit true true))
    case atStart => exact ⟨a, b, limit, true, true, d, rfl, rfl, rfl, rfl, rfl, hab, hb, Nat.le_refl _, Nat.le_refl _, Nat.le_refl _, hBel0, HS, rfl⟩
    case round =>
      obtain ⟨a', b', lim, wb, wp, dk, rfl, rfl, rfl, rfl, rfl, hab', hb', hk, hkN, hlim, hBel, HA, A⟩ := hrel
      have hds : dk.size = n := SZ.out _ _ _ HA.out
      by_cases h12 : b' - a' ≤ 12
      · have h12z : (b' : Int) - (a' : Int) ≤ 12 := by omega
        have hc := Lib.hid (insertion_at HD.out a' b' dk wr HA.out.1 hab' hb')
        go_wp2_with (go_at_call 71; refine hc.out.mono ?_; rintro e w1 ⟨rfl, hw1⟩)
        (try simp only [Exit.inBlock, Exit.then]); refine bodyPost_ret (results_none rfl _ _ _) rfl ?_
        refine ⟨rfl, ?_⟩
        rw [← A.out, pdq_small h12]
        exact HA.out.step hw1
      · have h12z : ¬ ((b' : Int) - (a' : Int) ≤ 12) := by omega
        by_cases hl0 : lim = 0
        · subst hl0
          have hc := Lib.hid (heap_at HD.out a' b' dk wr HA.out.1 (by omega) hb')
          go_wp2_with (go_at_call 72; refine hc.out.mono ?_; rintro e w1 ⟨rfl, hw1⟩)
          (try simp only [Exit.inBlock, Exit.then]); refine bodyPost_ret (results_none rfl _ _ _) rfl ?_
          refine ⟨rfl, ?_⟩
          rw [← A.out, pdq_heap h12 rfl]
          exact HA.out.step hw1
        · have hl0z : ¬ ((lim : Int) = 0) := by omega
          obtain ⟨s1, B1, hc1, s2, B2, hpv, s3, B3⟩ := rd_facts (lt := lt) (limit := lim) (wb := wb) (wp := wp) hO partialInsertionSort_holds reverseRange_holds (show a' < b' by omega) (show b' ≤ dk.size by omega) hBel.out
          have B3 := Lib.hid B3
          clear B1 B2
          go_upto_if 35 with fail
          go_cut [3] from 19 (fun s3 wc => s3 = .int .i64 (rd lt dk a' b' lim wb wp).lim ∧ Hid (AtS S St w (rd lt dk a' b' lim wb wp).d1 wc))
          case first =>
            cases wb
            · have hc := Lib.hid (break_at HD.out a' b' dk wr HA.out.1 hb' (by omega) hn)
              go_wp2_with (go_at_call 73; refine hc.out.mono ?_; rintro e w1 ⟨rfl, hw1⟩)
              go_meet
              case rel =>
                refine ⟨?_, HA.out.step hw1⟩
                show Value.int .i64 ((lim : Int) - 1) = Value.int .i64 ((lim - 1 : Nat) : Int)
                congr 1
                omega
            · go_wp2_with fail
              go_meet
              case rel => exact ⟨rfl, HA⟩
          case rest =>
            obtain ⟨rfl, HA1⟩ := hcut
            have hc17 : Hid (Calls Tryd.prog 74 #[.iface T rv, .int .i64 a', .int .i64 b'] wc fun e w' => e = .returned (.tuple #[.int .i64 (rd lt dk a' b' lim wb wp).c.1, .int .i64 (hintCode (rd lt dk a' b' lim wb wp).c.2)]) ∧ Hid (AtS S St w (rd lt dk a' b' lim wb wp).d1 w')) :=
              (pivot_at HD.out a' b' (rd lt dk a' b' lim wb wp).d1 wc HA1.out.1 (by omega) hb').mono fun e w' ⟨he, hs, hm⟩ => ⟨he, hs, HA1.out.2.trans (none_sub hm)⟩
            go_upto_if 50 with (go_at_call 74; refine hc17.out.mono ?_; rintro e w2 ⟨rfl, HA2⟩)
            go_cut [11, 12] from 19 (fun s11 s12 wc => s11 = .int .i64 (rd lt dk a' b' lim wb wp).pivot ∧ s12 = .int .i64 (hintCode (rd lt dk a' b' lim wb wp).hint) ∧ Hid (AtS S St w (rd lt dk a' b' lim wb wp).d2 wc))
            case first =>
              by_cases hh : (rd lt dk a' b' lim wb wp).c.2 = .decreasing
              · have hcode : hintCode (rd lt dk a' b' lim wb wp).c.2 = 2 := by rw [hh]; rfl
                obtain ⟨e2, epv, eht⟩ := rd_dec hh
                have hc18 := Lib.hid (reverse_at HD.out a' b' (rd lt dk a' b' lim wb wp).d1 w2 HA2.out.1 (by omega) hb')
                go_wp2_with (go_at_call 75; refine hc18.out.mono ?_; rintro e w3 ⟨rfl, hw3⟩)
                go_meet
                case rel =>
                  refine ⟨?_, by rw [eht]; rfl, (show Hid _ from by rw [e2]; exact HA2.out.step hw3)⟩
                  rw [epv]
                  congr 1
                  omega
              · have hcode : ¬ (hintCode (rd lt dk a' b' lim wb wp).c.2 = 2) := fun h => hh (hintCode_two h)
                obtain ⟨e2, epv, eht⟩ := rd_not hh
                go_wp2_with fail
                go_meet
                case rel => exact ⟨by rw [epv], by rw [eht], (show Hid _ from by rw [e2]; exact HA2)⟩
            case rest =>
              obtain ⟨rfl, rfl, HA3⟩ := hcut
              go_upto_region 15 with fail
              go_cut [12, 68] from 19 (fun s12 s68 wx => s12 = .int .i64 (hintCode (rd lt dk a' b' lim wb wp).hint) ∧ s68 = .bool (wb && wp && decide ((rd lt dk a' b' lim wb wp).hint = .increasing)) ∧ wx = wc)
              case first =>
                cases wb <;> cases wp <;> cases hh3 : (rd lt dk a' b' lim _ _).hint <;>
                  (have hcode3 := congrArg hintCode hh3
                   simp only [hintCode] at hcode3
                   go_wp2_with fail
                   go_meet
                   exact ⟨by simp [hh3, hintCode], by simp [hh3, hintCode], rfl⟩)
              case rest =>
                obtain ⟨rfl, rfl, rfl⟩ := hcut
                go_upto_if 68 with fail
                go_cut [] from 19 (fun wx => Hid ((rd lt dk a' b' lim wb wp).pi.2 = false) ∧ Hid (AtS S St w (rd lt dk a' b' lim wb wp).pi.1 wx))
                case first =>
                  cases h68 : (wb && wp && decide ((rd lt dk a' b' lim wb wp).hint = .increasing))
                  · have epi := Lib.hid (rd_pi_no h68)
                    go_wp2_with fail
                    go_meet
                    case rel => exact ⟨(show Hid _ from by rw [epi.out]; exact rfl), (show Hid _ from by rw [epi.out]; exact HA3)⟩
                  · have epi := rd_pi_yes h68
                    have hc19 := partial_at HD.out a' b' (rd lt dk a' b' lim wb wp).d2 wc HA3.out.1 (by omega) hb'
                    rw [← epi] at hc19
                    have HC := Lib.hid hc19
                    clear hc19
                    have epi := Lib.hid epi
                    cases hp2 : (rd lt dk a' b' lim wb wp).pi.2 with
                    | false =>
                      have HC2 := HC.out
                      rw [hp2] at HC2
                      have HC3 := Lib.hid HC2
                      clear HC2
                      go_wp2_with (go_at_call 76; refine HC3.out.mono ?_; rintro e w4 ⟨rfl, hw4⟩)
                      go_meet
                      case rel => exact ⟨hp2, HA3.out.step hw4⟩
                    | true =>
                      have HC2 := HC.out
                      rw [hp2] at HC2
                      have HC3 := Lib.hid HC2
                      clear HC2
                      go_wp2_with (go_at_call 76; refine HC3.out.mono ?_; rintro e w4 ⟨rfl, hw4⟩)
                      (try simp only [Exit.inBlock, Exit.then]); refine bodyPost_ret (results_none rfl _ _ _) rfl ?_
                      refine ⟨rfl, ?_⟩
                      rw [← A.out, pdq_done h12 hl0 hp2]
                      exact HA3.out.step hw4
                case rest =>
                  obtain ⟨hp2, HA5⟩ := hcut
                  go_upto_region 17 with fail
                  go_cut [82] from 19 (fun s82 wx => s82 = .bool (decide (a' > 0) && !lt (rd lt dk a' b' lim wb wp).pi.1[a' - 1]! (rd lt dk a' b' lim wb wp).pi.1[(rd lt dk a' b' lim wb wp).pivot]!) ∧ Hid (AtS S St w (rd lt dk a' b' lim wb wp).pi.1 wx))
                  case first =>
                    rcases Nat.eq_zero_or_pos a' with ha0 | ha0
                    · have ha0z : decide ((a' : Int) > 0) = false := decide_eq_false (by omega)
                      go_wp2_with fail
                      go_meet
                      case rel => exact ⟨by simp [ha0], HA5⟩
                    · have ha0z : (a' : Int) > 0 := by omega
                      cases hlv : lt (rd lt dk a' b' lim wb wp).pi.1[a' - 1]! (rd lt dk a' b' lim wb wp).pi.1[(rd lt dk a' b' lim wb wp).pivot]! <;>
                        (have hl := LC.out w (rd lt dk a' b' lim wb wp).pi.1 wc (a' - 1) (rd lt dk a' b' lim wb wp).pivot _ HA5.out (by omega) (by omega) (by omega) hlv
                         rw [show ((a' - 1 : Nat) : Int) = (a' : Int) - 1 by omega] at hl
                         have HL := Lib.hid hl
                         have r5 : Okd St wc := ⟨_, HA5.out.1⟩
                         clear hl
                         go_wp2_with (go_at_fn gl; refine HL.out.mono ?_; rintro e w' ⟨rfl, r1, HA6⟩)
                         go_meet
                         exact ⟨by simp [ha0, hlv], HA6⟩)
                  case rest =>
                    obtain ⟨rfl, HA6⟩ := hcut
                    cases h87 : (decide (a' > 0) && !lt (rd lt dk a' b' lim wb wp).pi.1[a' - 1]! (rd lt dk a' b' lim wb wp).pi.1[(rd lt dk a' b' lim wb wp).pivot]!)
                    · obtain ⟨mid, ap, d4, hx⟩ : ∃ mid ap d4, partition lt (rd lt dk a' b' lim wb wp).pi.1 a' b' (rd lt dk a' b' lim wb wp).pivot = (mid, ap, d4) := ⟨(partition lt (rd lt dk a' b' lim wb wp).pi.1 a' b' (rd lt dk a' b' lim wb wp).pivot).1, (partition lt (rd lt dk a' b' lim wb wp).pi.1 a' b' (rd lt dk a' b' lim wb wp).pivot).2.1, (partition lt (rd lt dk a' b' lim wb wp).pi.1 a' b' (rd lt dk a' b' lim wb wp).pivot).2.2, rfl⟩
                      obtain ⟨r1, r2, r3, r4, r5, r6, r7⟩ := round_part hO (partition_holds lt) hpv.1 hpv.2 (show b' ≤ (rd lt dk a' b' lim wb wp).pi.1.size by omega) B3.out hx
                      have R6 := Lib.hid r6
                      have R7 := Lib.hid r7
                      have R4 := Lib.hid r4
                      have R5 := Lib.hid r5
                      have hs4 : d4.size = n := r3.trans (s3.trans hds)
                      clear r6 r7 r4 r5 r3
                      have hc22 := partition_at HD.out a' b' (rd lt dk a' b' lim wb wp).pivot (rd lt dk a' b' lim wb wp).pi.1 wc HA6.out.1 hpv.1 hpv.2 hb'
                      rw [hx] at hc22
                      have HC22 := Lib.hid hc22
                      have X : Hid (partition lt (rd lt dk a' b' lim wb wp).pi.1 a' b' (rd lt dk a' b' lim wb wp).pivot = (mid, ap, d4)) := hx
                      clear hx hc22
                      go_upto_if 108 with (go_at_call 78; refine HC22.out.mono ?_; rintro e w7 ⟨rfl, hw7⟩)
                      have HA7 : Hid (AtS S St w d4 w7) := HA6.out.step hw7
                      have hx := X.out
                      by_cases h4 : mid - a' < b' - mid
                      · have h4z : (mid : Int) - (a' : Int) < (b' : Int) - (mid : Int) := by omega
                        have HIH := Lib.hid (IH.out a' mid (rd lt dk a' b' lim wb wp).lim d4 w7 (by omega) HA7.out.1 (by omega) (by omega) (Nat.lt_of_le_of_lt (Nat.le_trans rd_lim_le hlim) hlimit) R4.out)
                        have PS := Lib.hid (pdq_sorts lt hO d4 a' mid (rd lt dk a' b' lim wb wp).lim true true (by omega) (by omega) R4.out)
                        clear hx hw7
                        go_wp2_with (go_at_call 62; refine HIH.out.mono ?_; rintro e w8 ⟨rfl, hw8⟩)
                        go_roundg (b' - (mid + 1))
                        case measure => omega
                        case rel =>
                          have hx := X.out
                          refine ⟨mid + 1, b', (rd lt dk a' b' lim wb wp).lim, decide (mid - a' ≥ (b' - a') / 8), ap, pdq lt d4 a' mid (rd lt dk a' b' lim wb wp).lim true true, by simp, rfl, rfl, ?_, rfl, by omega, by omega, Nat.le_refl _, by omega, Nat.le_trans rd_lim_le hlim, (R6.out _ PS.out.1 PS.out.2).1, HA7.out.step hw8, ?_⟩
                          · exact congrArg Value.bool (eighth (by omega) (by omega))
                          · show _ = _; rw [← A.out, pdq_left h12 hl0 hp2.out h87 (by rw [hx]; exact ⟨r1, r2⟩) (by rw [hx]; exact h4), hx]
                      · have h4z : ¬ ((mid : Int) - (a' : Int) < (b' : Int) - (mid : Int)) := by omega
                        have hih := IH.out (mid + 1) b' (rd lt dk a' b' lim wb wp).lim d4 w7 (by omega) HA7.out.1 (by omega) (by omega) (Nat.lt_of_le_of_lt (Nat.le_trans rd_lim_le hlim) hlimit) R5.out
                        rw [show ((mid + 1 : Nat) : Int) = (mid : Int) + 1 by omega] at hih
                        have HIH := Lib.hid hih
                        have PS := Lib.hid (pdq_sorts lt hO d4 (mid + 1) b' (rd lt dk a' b' lim wb wp).lim true true (by omega) (by omega) R5.out)
                        clear hx hw7 hih
                        go_wp2_with (go_at_call 62; refine HIH.out.mono ?_; rintro e w8 ⟨rfl, hw8⟩)
                        go_roundg (mid - a')
                        case measure => omega
                        case rel =>
                          have hx := X.out
                          refine ⟨a', mid, (rd lt dk a' b' lim wb wp).lim, decide (b' - mid ≥ (b' - a') / 8), ap, pdq lt d4 (mid + 1) b' (rd lt dk a' b' lim wb wp).lim true true, rfl, rfl, rfl, ?_, rfl, by omega, by omega, Nat.le_refl _, by omega, Nat.le_trans rd_lim_le hlim, (R7.out _ PS.out.1 PS.out.2).1, HA7.out.step hw8, ?_⟩
                          · exact congrArg Value.bool (eighth (by omega) (by omega))
                          · show _ = _; rw [← A.out, pdq_right h12 hl0 hp2.out h87 (by rw [hx]; exact ⟨r1, r2⟩) (by rw [hx]; exact h4), hx]
                    · have h87' := h87
                      simp only [Bool.and_eq_true, decide_eq_true_eq, Bool.not_eq_true'] at h87'
                      obtain ⟨mid, d4, hx⟩ : ∃ mid d4, partitionEqual lt (rd lt dk a' b' lim wb wp).pi.1 a' b' (rd lt dk a' b' lim wb wp).pivot = (mid, d4) := ⟨(partitionEqual lt (rd lt dk a' b' lim wb wp).pi.1 a' b' (rd lt dk a' b' lim wb wp).pivot).1, (partitionEqual lt (rd lt dk a' b' lim wb wp).pi.1 a' b' (rd lt dk a' b' lim wb wp).pivot).2, rfl⟩
                      obtain ⟨r1, r2, r3, r4, _⟩ := round_eq hO (partitionEqual_holds lt) h87'.1 hpv.1 hpv.2 (show b' ≤ (rd lt dk a' b' lim wb wp).pi.1.size by omega) B3.out h87'.2 hx
                      have R4 := Lib.hid r4
                      clear r4 r3 h87'
                      have hc21 := partitionEqual_at HD.out a' b' (rd lt dk a' b' lim wb wp).pivot (rd lt dk a' b' lim wb wp).pi.1 wc HA6.out.1 hpv.1 hpv.2 hb'
                      rw [hx] at hc21
                      have HC21 := Lib.hid hc21
                      have X : Hid (partitionEqual lt (rd lt dk a' b' lim wb wp).pi.1 a' b' (rd lt dk a' b' lim wb wp).pivot = (mid, d4)) := hx
                      clear hx hc21
                      go_wp2_with (go_at_call 77; refine HC21.out.mono ?_; rintro e w7 ⟨rfl, hw7⟩)
                      go_roundg (b' - mid)
                      case measure => omega
                      case rel =>
                        have hx := X.out
                        exact ⟨mid, b', (rd lt dk a' b' lim wb wp).lim, wb, wp, d4, rfl, rfl, rfl, rfl, rfl, r2, hb', Nat.le_refl _, by omega, Nat.le_trans rd_lim_le hlim, R4, HA6.out.step hw7, (show Hid _ from by show _ = _; rw [← A.out, pdq_eq h12 hl0 hp2.out h87 (by rw [hx]; exact ⟨r1, r2⟩), hx])⟩

/-- What sort.Sort answers: the list sorted. -/
def SortEnd (lt : α → α → Bool) (n : Nat) (S : Nat → Prop) (St : World → Array α → Prop) (d : Array α) (w : World) (e : Ending) (w' : World) : Prop := e = .returned (.tuple #[]) ∧ ∃ d', PermIn 0 n d d' ∧ SortedIn lt 0 n d' ∧ AtS S St w d' w'

set_option maxHeartbeats 2000000 in
set_option maxRecDepth 100000 in
theorem sort_at (h : Srt T rv vl vs gl gs lt n H S St) (hO : SWO lt) (hn : n < 65536) (gn : Nat) (vn : Value)
    (findN : ∀ w d, St w d → (method 308 T rv "Len").run Tryd.prog w = .ok (gn, vn) w) (enterN : ∀ args w, (callFunc gn args).run Tryd.prog w = .ok (.enter gn args) w)
    (hlen : ∀ w d, St w d → Calls Tryd.prog gn #[vn] w fun e w' => e = .returned (.int .i64 n) ∧ Mod (fun _ => False) w w')
    (d : Array α) (w : World) (hH : St w d) : Calls Tryd.prog 51 #[.iface T rv] w (SortEnd lt n S St d w) := by
  have hd0 : d.size = n := h.size _ _ hH
  have HL := Lib.hid (hlen w d hH)
  have HD := Lib.hid (And.intro h hH)
  have wr0 : IntKind.u64.wrap (n : Int) = n := by simp [IntKind.wrap, IntKind.bits, IntKind.signed]; omega
  have hk : bitsLen n ≤ 62 := (bitsLen_le_iff n 62).2 (by omega)
  have HB := Lib.hid (bitslen_at n hn)
  have mN : ∀ w, Okd St w → (method 308 T rv "Len").run Tryd.prog w = .ok (gn, vn) w := fun w ⟨d, hd⟩ => findN w d hd
  have r0 : Okd St w := ⟨_, hH⟩
  clear hlen h hH
  by_cases h2 : n ≤ 1
  · have h2z : (n : Int) ≤ 1 := by omega
    go_enter Tryd.func51, Tryd.ntmps51
    go_wp2_with (go_at_fn gn; refine HL.out.mono ?_; rintro e w1 ⟨rfl, hm1⟩)
    (try simp only [Exit.inBlock, Exit.then]); refine bodyPost_ret (results_none rfl _ _ _) rfl ?_
    refine ⟨rfl, d, permIn_refl _ _ _, fun i j h1 h3 h4 => by omega, HD.out.1.keep0 hm1 HD.out.2, none_sub hm1⟩
  · have h2z : ¬ (n : Int) ≤ 1 := by omega
    go_enter Tryd.func51, Tryd.ntmps51
    go_wp2_with (first
      | (go_at_fn gn; refine HL.out.mono ?_; rintro e w1 ⟨rfl, hm1⟩; have H1 := Lib.hid hm1; clear hm1)
      | (go_at_call 61; refine (HB.out _).mono ?_; rintro e w' ⟨rfl, rfl⟩)
      | (go_at_call 62; refine (pdq_at HD.out.1 hO hn (n + 1) 0 n (bitsLen n) d _ (by omega) (HD.out.1.keep0 H1.out HD.out.2) (by omega) (by omega) (by omega) (.inl rfl)).mono ?_; rintro e w2 ⟨rfl, h4⟩; have H4 := Lib.hid h4; clear h4))
    go_end0
    have ps := pdq_sorts lt hO d 0 n (bitsLen n) true true (by omega) (by omega) (.inl rfl)
    exact ⟨rfl, _, ps.1, ps.2, H4.out.1, (none_sub H1.out).trans H4.out.2⟩
end Go.Proofs.YtpamoleocjdjiaaDoor
