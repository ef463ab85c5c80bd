/- Steps of a proof, one behind another: The walk of the law FnTkSteps. How arguments that came in read: slices of float numbers. How the laws' arguments read: lists of points, picks. Conditions: as each theorem says. -/
import Derived.Test.YtmeooadgdagiiaaMs18
import Derived.Deep.QuietTactic
import Derived.BigQuiet
import Derived.Deep.Slices
import Derived.Deep.Fields
import Derived.ChangeSame
import Derived.Laws.Cover2

namespace Go.Proofs.Ytmeooadgdagiiaa.K
open Go.RowKit Lox Go.Sort
set_option linter.unusedVariables false
attribute [local go_sem] run_store_flt run_store_fn

def StGood (ps : List TP) (qx : List Nat) (nq n : Nat) (pk : List Int) : Prop :=
  (∀ p ∈ ps, p.xs.length = nq ∧ p.Gr) ∧ (∀ x ∈ qx, ∃ n, Wh x n) ∧ (0 < nq ∧ nq ≤ 4) ∧ n ≤ 120 ∧ pk.length ≤ 80 ∧ ∀ k ∈ pk, 0 ≤ k

theorem st_some {w : World} {O P Q : Option Addr} {c cp cq n nk nq : Nat} {ps : List TP} {pk : List Int} {qx : List Nat} (W : World) (hW : Mod (fun _ => False) w W) (hx : RR.Ok w ⟨O, c, ps⟩) (hP : Sl w P nk 1 (ints pk)) (hn : ps.length = n) (hQ : Sl w Q nq 1 (flts qx)) (hql : qx.length = nq) (hnk : nk ≤ 2147483647) (h1 : n ≤ 2147483647) (hq : nq ≤ 9223372036854775807) :
    Calls Try.prog 9 #[.int .i64 nq, .float .f64 4697254411347427328, .slice P nk cp, .slice (some ⟨W.heap.size + 1, 0, none⟩) 2 2] ((W.alloc (.cells #[.slice Q nq cq] 26)).alloc (.cells #[.slice O n c, .slice (some ⟨W.heap.size, 0, none⟩) 1 1] 22)) fun e w' => ((W.alloc (.cells #[.slice Q nq cq] 26)).alloc (.cells #[.slice O n c, .slice (some ⟨W.heap.size, 0, none⟩) 1 1] 22)) = w' ∧ ∃ b, e = .returned (.bool b) ∧ (b = true → StGood ps qx nq n pk) := by
  subst hn hql
  have hm2 := (hW.alloc (.cells #[.slice Q qx.length cq] 26)).alloc (.cells #[.slice O ps.length c, .slice (some ⟨W.heap.size, 0, none⟩) 1 1] 22)
  have hb1 : Blk ((W.alloc (.cells #[.slice Q qx.length cq] 26)).alloc (.cells #[.slice O ps.length c, .slice (some ⟨W.heap.size, 0, none⟩) 1 1] 22)) W.heap.size 26 [.slice Q qx.length cq] := (Blk.new' W #[.slice Q qx.length cq] 26).alloc _
  have hb2 := Blk.new' (W.alloc (.cells #[.slice Q qx.length cq] 26)) #[.slice O ps.length c, .slice (some ⟨W.heap.size, 0, none⟩) 1 1] 22
  rw [World.size_alloc] at hb2
  refine (some_at _ P 2 2 nk cp qx.length [⟨O, c, ps⟩, ⟨some ⟨W.heap.size, 0, none⟩, 1, [⟨Q, cq, qx⟩]⟩] pk _ ⟨rfl, fun _ => ⟨W.heap.size + 1, 0, rfl, fun j u hu => ?_⟩⟩ (by omega) ?_ (hP.mod hm2) hnk).mono ?_
  · rw [Nat.zero_add]
    exact hb2.at (by rw [← hu]; rfl)
  · intro z hz
    rcases List.mem_cons.1 hz with rfl | hz
    · exact ⟨hx.mod hm2, h1⟩
    · rw [List.mem_singleton.1 hz]
      refine ⟨⟨⟨rfl, fun _ => ⟨W.heap.size, 0, rfl, fun j u hu => ?_⟩⟩, fun p hp => ?_, by show 1 ≤ _; omega⟩, by show 1 ≤ _; omega⟩
      · rw [Nat.zero_add]
        exact hb1.at (by rw [← hu]; rfl)
      · rw [List.mem_singleton.1 hp]
        exact ⟨hQ.mod hm2, hq⟩
  · rintro e w' ⟨h3, b, h4, h5⟩
    refine ⟨h3, b, h4, fun hb => ?_⟩
    obtain ⟨k1, k2, k3, k4, k5⟩ := h5 hb
    obtain ⟨a1, a2⟩ := k1 _ (List.mem_cons_self ..)
    obtain ⟨a4, -⟩ := k1 _ (List.mem_cons_of_mem _ (List.mem_cons_self ..))
    refine ⟨fun p hp => ?_, fun x hx => (a4 _ (List.mem_cons_self ..)).2 x hx, by omega, by simp [many] at k3; omega, k4, k5⟩
    exact ⟨by have := (a1 p hp).1; omega, TP.gr_of (a1 p hp).2⟩

theorem bits_of {dims : Nat} {qx : List Nat} {pts : List (List Nat)} {fs : List (TP × Nat)} {rest : List (List Nat)} (hd : dims ≤ 4) (hql : qx.length = dims) (hqg : ∀ x ∈ qx, ∃ n, Wh x n) (hp : ∀ y ∈ pts, y.length = dims ∧ ∀ x ∈ y, ∃ n, Wh x n) (h : FRes dims qx pts fs rest) : ∀ b ∈ rest, ∃ r, Gd 0 r (sqx qx b dims) := by
  intro b hb
  obtain ⟨h1, h2⟩ := hp b (h.perm.mem_iff.1 (List.mem_append_right _ hb))
  obtain ⟨t, h3, h4⟩ := ex_isp (q := ⟨none, 0, qx⟩) (p := ⟨none, 0, b⟩) (dims := dims) ⟨TP.gr_of hqg, hql⟩ ⟨TP.gr_of h2, h1⟩ hd
  refine ⟨t.1.1, ?_⟩
  have := h3.1.1
  rw [h4] at this
  exact this

/-- The i-th number of what was found. -/
theorem found_cell {w : World} {F : Option Addr} {n i : Nat} {fs : List (TP × Nat)} (h : FRows w F n fs) {x : TP × Nat} (hx : fs[i]? = some x) : ∃ b o, F = some ⟨b, o, none⟩ ∧ w.cell? ⟨b, o + i * 2 + 1, none⟩ = some (.float .f64 x.2) := by
  have hi : i < fs.length := (List.getElem?_eq_some_iff.1 hx).1
  obtain ⟨b, o, e, hc⟩ := h.cells (by have := h.len; omega)
  exact ⟨b, o, e, (hc i x hx).2⟩

theorem gd_eq_true {x y : Nat} {a b : Int} (hx : Gd 0 x a) (hy : Gd 0 y b) (h : a = b) : (FloatKind.f64.format.order x y == some .eq) = true := by rw [hx.eq hy]; exact decide_eq_true h
theorem gd_ne_false {x y : Nat} {a b : Int} (hx : Gd 0 x a) (hy : Gd 0 y b) (h : a = b) : (FloatKind.f64.format.order x y != some .eq) = false := by rw [bne, gd_eq_true hx hy h]; rfl
theorem gd_lt_false {x y : Nat} {a b : Int} (hx : Gd 0 x a) (hy : Gd 0 y b) (h : b ≤ a) : (FloatKind.f64.format.order x y == some .lt) = false := by rw [hx.lt hy]; exact decide_eq_false (by omega)

set_option maxRecDepth 100000 in
set_option maxHeartbeats 8000000 in
theorem fnTkSteps_at (x : RR) (P Q : Option Addr) (cp nk cq nq : Nat) (k : Int) (pk : List Int) (qx : List Nat) (w : World) (hx : x.Ok w) (hP : Sl w P nk 1 (ints pk)) (hPA : P = none → cp = 0) (hnk : nk ≤ 9223372036854775807) (hpk : ∀ k ∈ pk, k ≤ 9223372036854775807) (hQ : Sl w Q nq 1 (flts qx)) (hnq : nq ≤ 9223372036854775807) :
    Calls Try.prog 7 #[x.v, .slice P nk cp, .slice Q nq cq, .int .i64 k] w (Yes w) := by
  have hpl : pk.length = nk := by have := hP.1; simpa [ints] using this
  have hql : qx.length = nq := by have := hQ.1; simpa [flts] using this
  obtain ⟨O, c, ps⟩ := x
  obtain ⟨n, hn⟩ : ∃ n, ps.length = n := ⟨_, rfl⟩
  have ex : (RR.mk O c ps).v = .slice O n c := by rw [← hn]; rfl
  have hnl : n ≤ 9223372036854775807 := by rw [← hn]; exact hx.2.2
  have FX : Hid (∀ W : World, Mod (fun _ => False) w W → Calls Try.prog 8 #[.slice O n c] W (FitsTold ⟨O, c, ps⟩ W)) := fun W hm => by rw [← ex]; exact fits4_any _ W (hx.mod hm)
  rw [ex]
  have HX := Lib.hid (And.intro hx (And.intro hP (And.intro hPA (And.intro hpk (And.intro hpl (And.intro hn (And.intro hQ hql)))))))
  clear ex hx hP hPA hpk hpl hn hQ hql
  by_cases hnk2 : 2147483647 < nk
  · go_enter Try.func7, Try.ntmps7
    go_wp2_with (go_at_call 8; refine (FX.out _ (Mod.refl _ _)).mono ?_; rintro _ w1 ⟨b1, rfl, rfl, hb1⟩; clear hb1)
    all_goals
      go_ret
      exact ⟨rfl, Mod.refl _ _⟩
  have hdk : decide ((2147483647 : Int) < (nk : Int)) = false := decide_eq_false (by omega)
  by_cases hnq2 : 2147483647 < nq
  · go_enter Try.func7, Try.ntmps7
    go_wp2_with (go_at_call 8; refine (FX.out _ (Mod.refl _ _)).mono ?_; rintro _ w1 ⟨b1, rfl, rfl, hb1⟩; clear hb1)
    all_goals
      go_ret
      exact ⟨rfl, Mod.refl _ _⟩
  have hdq : decide ((2147483647 : Int) < (nq : Int)) = false := decide_eq_false (by omega)
  by_cases h0 : n = 0
  · subst h0
    go_enter Try.func7, Try.ntmps7
    go_wp2_with (go_at_call 8; refine (FX.out _ (Mod.refl _ _)).mono ?_; rintro _ w1 ⟨b1, rfl, rfl, hb1⟩; clear hb1)
    all_goals
      go_ret
      exact ⟨rfl, Mod.refl _ _⟩
  have h0' : ((n : Int) == 0) = false := beq_eq_false_iff_ne.2 (by omega)
  by_cases hk1 : k < 1
  · have hdk1 : decide (k < 1) = true := decide_eq_true hk1
    go_enter Try.func7, Try.ntmps7
    go_wp2_with (go_at_call 8; refine (FX.out _ (Mod.refl _ _)).mono ?_; rintro _ w1 ⟨b1, rfl, rfl, hb1⟩; clear hb1)
    all_goals
      go_ret
      exact ⟨rfl, Mod.refl _ _⟩
  have hdk1 : decide (k < 1) = false := decide_eq_false hk1
  by_cases hk2 : 200 < k
  · have hdk2 : decide (200 < k) = true := decide_eq_true hk2
    go_enter Try.func7, Try.ntmps7
    go_wp2_with (go_at_call 8; refine (FX.out _ (Mod.refl _ _)).mono ?_; rintro _ w1 ⟨b1, rfl, rfl, hb1⟩; clear hb1)
    all_goals
      go_ret
      exact ⟨rfl, Mod.refl _ _⟩
  have hdk2 : decide (200 < k) = false := decide_eq_false hk2
  obtain ⟨m, rfl⟩ : ∃ m : Nat, k = (m : Int) := ⟨k.toNat, by omega⟩
  have hm : 0 < m ∧ m ≤ 200 := by omega
  have SM : Hid (∀ W : World, Mod (fun _ => False) w W → n ≤ 2147483647 → Calls Try.prog 9 #[.int .i64 nq, .float .f64 4697254411347427328, .slice P nk cp, .slice (some ⟨W.heap.size + 1, 0, none⟩) 2 2] ((W.alloc (.cells #[.slice Q nq cq] 26)).alloc (.cells #[.slice O n c, .slice (some ⟨W.heap.size, 0, none⟩) 1 1] 22)) fun e w' => ((W.alloc (.cells #[.slice Q nq cq] 26)).alloc (.cells #[.slice O n c, .slice (some ⟨W.heap.size, 0, none⟩) 1 1] 22)) = w' ∧ ∃ b, e = .returned (.bool b) ∧ (b = true → StGood ps qx nq n pk)) := by
    intro W hW h1
    exact st_some W hW HX.out.1 HX.out.2.1 HX.out.2.2.2.2.2.1 HX.out.2.2.2.2.2.2.1 HX.out.2.2.2.2.2.2.2 (by omega) h1 (by omega)
  have KBF : Hid (∀ W : World, Mod (fun _ => False) w W → StGood ps qx nq n pk → Calls Try.prog 10 #[.slice O n c, .slice P nk cp, .bool false, .slice none 0 0] W (KbTold nq n 0 ps [] (pk.map Int.toNat) W)) := by
    intro W hW h
    obtain ⟨g1, g2, g3, g4, g5, g6, g7, g8⟩ := HX.out
    obtain ⟨h1, h2, h3, h4, h5⟩ := h
    refine kbuild_at _ P none n c nk cp 0 0 nq ps [] _ W ⟨by rw [← g6]; exact (g1.mod hW).1, fun p hp => ⟨(g1.mod hW).2.1 p hp, (h1 p hp).1⟩⟩ ⟨⟨rfl, fun h => absurd h (by decide)⟩, fun p hp => absurd hp List.not_mem_nil⟩ (by rw [List.length_map, g5]) (by rw [ints_nat h5.2]; exact g2.mod hW) g3 ?_ (fun p hp => (h1 p hp).2) (fun p hp => absurd hp List.not_mem_nil) (by omega) (by omega)
    intro k hk
    obtain ⟨k', hk', rfl⟩ := List.mem_map.1 hk
    have := g4 k' hk'
    omega
  have KNS : Hid (∀ (j : Nat) (J : Int) (W : World) (A5 : Option Addr) (c5 N5 B : Nat) (rs : List KR) (mt : MT), J = (j : Int) → 0 < j → j ≤ 300 → Mod (fun _ => False) w W → StGood ps qx nq n pk → N5 = rs.length → Grown nq (ps ++ []) mt rs → KS B W nq (.slice A5 N5 c5) rs →
      Calls Try.prog 25 #[.slice A5 N5 c5, .slice Q nq cq, .int .i64 J] W (KsTold j nq qx (mt.pts.map TP.xs) W)) := by
    rintro j J W A5 c5 N5 B rs mt rfl hj hj2 hW hg hN hG hK
    obtain ⟨g1, g2, g3, g4, g5, g6, g7, g8⟩ := HX.out
    exact kset_at A5 Q c5 N5 cq nq B j qx rs mt W hg.2.2.1 hN hG.box hG.some hK hG.seg (g7.mod hW) hg.2.1 hG.good hG.ord hG.each (by have := hG.pts.length_eq; rw [List.length_map, List.length_map, List.append_nil, g6] at this; have := hg.2.2.2.1; omega) ⟨hj, by omega⟩
  have KWI : Hid (∀ (S : Nat) (W : World) (A5 : Option Addr) (c5 N5 B : Nat) (rs : List KR) (mt : MT), Lox.Fin S → Mod (fun _ => False) w W → StGood ps qx nq n pk → N5 = rs.length → Grown nq (ps ++ []) mt rs → KS B W nq (.slice A5 N5 c5) rs →
      Calls Try.prog 26 #[.slice A5 N5 c5, .slice Q nq cq, .float .f64 S] W (D.KsTold S nq qx (mt.pts.map TP.xs) W)) := by
    rintro S W A5 c5 N5 B rs mt hS hW hg hN hG hK
    obtain ⟨g1, g2, g3, g4, g5, g6, g7, g8⟩ := HX.out
    exact D.kset_at A5 Q c5 N5 cq nq B S qx rs mt W hg.2.2.1 hN hG.box hG.some hK hG.seg (g7.mod hW) hg.2.1 hG.good hG.ord hG.each (by have := hG.pts.length_eq; rw [List.length_map, List.length_map, List.append_nil, g6] at this; have := hg.2.2.2.1; omega) hS
  have hn0 : 0 < n := by omega
  have HN := Lib.hid (And.intro hn0 hm)
  clear hn0 h0 hk1 hk2
  go_enter Try.func7, Try.ntmps7
  go_upto_region 8 with (first
    | (go_at_call 8; refine (FX.out _ (Mod.refl _ _)).mono ?_; rintro _ w1 ⟨b1, rfl, rfl, hb1⟩; have HB1 := Lib.hid hb1; clear hb1)
    | (go_at_call 9; refine (SM.out _ (Mod.refl _ _) (by have h1 : ps.length ≤ 2147483647 := (HB1.out (by first | assumption | exact not_false (by assumption))).1; have h2 := HX.out.2.2.2.2.2.1; omega)).mono ?_; rintro _ w4 ⟨rfl, b3, rfl, hb3⟩; have HB3 := Lib.hid hb3; clear hb3)
    | (go_at_call 10; have hg := HB3.out (by first | assumption | exact not_false (by assumption)); refine (KBF.out _ (((Mod.refl _ _).alloc _).alloc _) hg).mono ?_; rintro _ w5 ⟨v, rs, mt, qs, is, rfl, k1, k2, k3, k4, k5, k6, k7, ⟨A5, c5, rfl⟩⟩; have hG : Grown nq (ps ++ []) mt rs := grown_of hg.2.2.1.1 HX.out.2.2.2.2.2.1 rfl HN.out.1 (by rw [List.append_nil]; exact hg.1) k2 k3 k4 k5 k6; obtain ⟨N5, hN5⟩ : ∃ N5, N5 = rs.length := ⟨_, rfl⟩; rw [← hN5] at k1; rw [← hN5]; have hw5 : Mod (fun _ => False) w w5 := ((((Mod.refl _ _).alloc _).alloc _).trans k7); have HK := Lib.hid (And.intro k1 (And.intro hN5 (And.intro hw5 (And.intro hG hg)))); clear k1 k2 k3 k4 k5 k6 k7 hN5 hg hG hw5)
    | (have _h1 := H6; go_at_call 25; refine (KNS.out (m + 1) _ w6 A5 c5 N5 _ rs mt (by omega) (by omega) (by omega) H6.out.2.2.2.2 HK.out.2.2.2.2 HK.out.2.1 HK.out.2.2.2.1 H6.out.2.2.2.1).mono ?_; rintro _ w7 ⟨F7, c7, N7, fs7, rest7, rfl, a1, a2, a3, a4, a5⟩; have H7 := Lib.hid (And.intro a1 (And.intro a3 (And.intro a4 a5))); clear a1 a2 a3 a4 a5)
    | (go_at_call 25; refine (KNS.out m _ w5 A5 c5 N5 _ rs mt rfl HN.out.2.1 (by omega) HK.out.2.2.1 HK.out.2.2.2.2 HK.out.2.1 HK.out.2.2.2.1 HK.out.1).mono ?_; rintro _ w6 ⟨F6, c6, N6, fs6, rest6, rfl, a1, a2, a3, a4, a5⟩; have H6 := Lib.hid (And.intro a1 (And.intro a3 (And.intro a4 (And.intro (HK.out.1.mod a5) (HK.out.2.2.1.trans a5))))); clear a1 a2 a3 a4 a5))
  all_goals first
    | (go_ret; exact ⟨rfl, by first | exact Mod.refl _ _ | exact ((Mod.refl _ _).alloc _).alloc _⟩)
    | skip
  have hpl : (mt.pts.map TP.xs).length = n := by have h1 := HK.out.2.2.2.1.pts.length_eq; have h2 := HX.out.2.2.2.2.2.1; rw [h1, List.length_map, List.append_nil, h2]
  have hN6 : N6 = min m n := by have := H6.out.2.2.1; rw [hpl] at this; exact this
  have hN7 : N7 = min (m + 1) n := by have := H7.out.2.2.1; rw [hpl] at this; exact this
  have hn0 := HN.out.1
  have hn6 : 0 < N6 := by omega
  have hn67 : N6 ≤ N7 := by omega
  have hn76 : N7 ≤ N6 + 1 := by omega
  have hb6 : N6 ≤ 200 := by omega
  have hz : ((N6 : Int) == 0) = false := beq_eq_false_iff_ne.2 (by omega)
  have h67 : decide ((N7 : Int) < (N6 : Int)) = false := decide_eq_false (by omega)
  have h76 : decide ((N6 : Int) + 1 < (N7 : Int)) = false := decide_eq_false (by omega)
  have hl6 : fs6.length = N6 := H6.out.1.len
  have hl7 : fs7.length = N7 := H7.out.1.len
  obtain ⟨b6, o6, rfl, hc6⟩ := (H6.out.1.mod H7.out.2.2.2).cells hn6
  obtain ⟨b7, o7, rfl, hc7⟩ := H7.out.1.cells (by omega)
  have HL := Lib.hid (And.intro hl6 (And.intro hl7 (And.intro hc6 (And.intro hc7 hpl))))
  clear hpl hN6 hN7 hn0 hl6 hl7 hc6 hc7
  go_wp2_with fail
  go_loopw [109] (fun i w' => ∃ j : Nat, j ≤ N6 ∧ i = .int .i64 j ∧ Hid (Mod (fun _ => False) w7 w')) (fun i _ => N6 - (intOf i).toNat)
  case atStart => exact ⟨0, Nat.zero_le _, rfl, Mod.refl _ _⟩
  case round =>
    obtain ⟨j, hj, rfl, HM⟩ := hrel
    by_cases hlt : j < N6
    · have hlt' : (j : Int) < N6 := by omega
      obtain ⟨x, hx⟩ : ∃ x, fs6[j]? = some x := ⟨_, List.getElem?_eq_getElem (by have := HL.out.1; omega)⟩
      obtain ⟨y, hy, hxy⟩ := keys_get H6.out.2.1 H7.out.2.1 (by have := HL.out.1; have := HL.out.2.1; omega) hx
      have gx := (H6.out.2.1.dv x (List.mem_of_getElem? hx)).1
      have gy := (H7.out.2.1.dv y (List.mem_of_getElem? hy)).1
      have hq1 := gd_ne_false gx gy hxy.symm
      have cx : wr.cell? ⟨b6, o6 + j * 2 + 1, none⟩ = some (.float .f64 x.2) := (HM.out.cell (lt_of_cell (HL.out.2.2.1 j x hx).2) (fun h => h)).trans (HL.out.2.2.1 j x hx).2
      have cy : wr.cell? ⟨b7, o7 + j * 2 + 1, none⟩ = some (.float .f64 y.2) := (HM.out.cell (lt_of_cell (HL.out.2.2.2.1 j y hy).2) (fun h => h)).trans (HL.out.2.2.2.1 j y hy).2
      have i0 : (0 : Int) ≤ j := by omega
      have i1 : (j : Int) < N7 := by omega
      by_cases hj0 : j = 0
      · have hj0' : decide ((0 : Int) < (j : Int)) = false := decide_eq_false (by omega)
        clear hx hy hxy gx gy
        subst hj0
        simp only [Nat.zero_mul, Nat.add_zero] at cx cy
        go_wp2_with fail
        go_quiet (fail)
        go_wp2_with fail
        go_roundw
        case rel => exact ⟨1, by omega, rfl, HM.out.trans (mod_drewN _ _ _)⟩
        case measure => simp [intOf]; omega
      · have hj0' : decide ((0 : Int) < (j : Int)) = true := decide_eq_true (by omega)
        have hj1 : (0 : Int) < j := by omega
        have hj4 : decide (0 < j) = true := decide_eq_true (by omega)
        have hj2 : (0 : Int) ≤ (j : Int) - 1 := by omega
        have hj3 : (j : Int) - 1 < N6 := by omega
        obtain ⟨z, hz2⟩ : ∃ z, fs6[j - 1]? = some z := ⟨_, List.getElem?_eq_getElem (by have := HL.out.1; omega)⟩
        have gz := (H6.out.2.1.dv z (List.mem_of_getElem? hz2)).1
        have hq2 := gd_lt_false gx gz (keys_up H6.out.2.1 hz2 hx (by omega))
        have cz : wr.cell? ⟨b6, o6 + (j - 1) * 2 + 1, none⟩ = some (.float .f64 z.2) := (HM.out.cell (lt_of_cell (HL.out.2.2.1 _ z hz2).2) (fun h => h)).trans (HL.out.2.2.1 _ z hz2).2
        clear hx hy hxy gx gy hz2 gz
        go_wp2_with fail
        go_quiet (fail)
        go_wp2_with fail
        go_roundw
        case rel => exact ⟨j + 1, by omega, by go_num, HM.out.trans (mod_drewN _ _ _)⟩
        case measure => simp [intOf]; omega
    · have hjN : j = N6 := by omega
      subst hjN
      obtain ⟨x, hx⟩ : ∃ x, fs6[j - 1]? = some x := ⟨_, List.getElem?_eq_getElem (by have := HL.out.1; omega)⟩
      have gx := (H6.out.2.1.dv x (List.mem_of_getElem? hx)).1
      have cx : wr.cell? ⟨b6, o6 + (j - 1) * 2 + 1, none⟩ = some (.float .f64 x.2) := (HM.out.cell (lt_of_cell (HL.out.2.2.1 _ x hx).2) (fun h => h)).trans (HL.out.2.2.1 _ x hx).2
      have hmw : Mod (fun _ => False) w wr := (H6.out.2.2.2.2.trans H7.out.2.2.2).trans HM.out
      have hkr : KS _ wr nq (.slice A5 N5 c5) rs := (H6.out.2.2.2.1.mod H7.out.2.2.2).mod HM.out
      have KW : Hid (Calls Try.prog 26 #[.slice A5 N5 c5, .slice Q nq cq, .float .f64 x.2] wr (D.KsTold x.2 nq qx (mt.pts.map TP.xs) wr)) := KWI.out x.2 wr A5 c5 N5 _ rs mt gx.1 hmw HK.out.2.2.2.2 HK.out.2.1 HK.out.2.2.2.1 hkr
      have WL : Hid (∀ (w8 : World) (F8 : Option Addr) (N8 : Nat) (fs8 : List (TP × Nat)) (rest8 : List (List Nat)), FRows w8 F8 N8 fs8 → FRes nq qx (mt.pts.map TP.xs) fs8 rest8 → (∀ y ∈ fs8, fk y.2 ≤ fk x.2) → (∀ b ∈ rest8, ∀ r, Gd 0 r (sqx qx b nq) → fk x.2 < fk r) →
          ∃ y b8 o8, F8 = some ⟨b8, o8, none⟩ ∧ 0 < N8 ∧ j ≤ N8 ∧ N8 ≤ 1000 ∧ w8.cell? ⟨b8, o8 + (N8 - 1) * 2 + 1, none⟩ = some (.float .f64 y) ∧ (FloatKind.f64.format.order y x.2 == some .eq) = true) := by
        intro w8 F8 N8 fs8 rest8 h1 h2 h3 h4
        have hg := HK.out.2.2.2.2
        have hbits := bits_of hg.2.2.1.2 HX.out.2.2.2.2.2.2.2 hg.2.1 (fun y hy => by obtain ⟨p, hp, rfl⟩ := List.mem_map.1 hy; obtain ⟨q1, q2⟩ := HK.out.2.2.2.1.good p hp; exact ⟨q1, TP.gr_iff.1 q2⟩) h2
        obtain ⟨c', y, e1, e2, e3, e4⟩ := within_last (m := j - 1) H6.out.2.1 h2 (by have := HL.out.1; omega) hx rfl h3 h4 hbits
        have hl := h1.len
        obtain ⟨b8, o8, e5, hc8⟩ := h1.cells (by omega)
        have hle := h2.perm.length_eq
        rw [List.length_append, List.length_map, HL.out.2.2.2.2] at hle
        have hn120 := hg.2.2.2.1
        refine ⟨y.2, b8, o8, e5, by omega, by omega, by omega, ?_, gd_eq_true (h2.dv y (List.mem_of_getElem? e3)).1 gx e4⟩
        rw [show N8 - 1 = c' by omega]
        exact (hc8 c' y e3).2
      have HMW := Lib.hid hmw
      have j1 : (0 : Int) ≤ (j : Int) - 1 := by omega
      have j2 : (j : Int) - 1 < j := by omega
      clear hx gx hmw hkr hj hlt h67 h76 hz
      go_wp2_with (go_at_call 26; refine KW.out.mono ?_; rintro _ w8 ⟨F8, c8, N8, fs8, rest8, rfl, a1, a2, a3, ⟨a4, a6⟩, a5⟩; obtain ⟨y, b8, o8, rfl, e1, e2, e3, cy, e4⟩ := WL.out w8 F8 N8 fs8 rest8 a1 a3 a4 a6; have q0 : decide ((j : Int) ≤ (N8 : Int)) = true := decide_eq_true (by omega); have q1 : (0 : Int) ≤ (N8 : Int) - 1 := (by omega); have q2 : (N8 : Int) - 1 < N8 := (by omega); have H8 := Lib.hid a5; clear a1 a2 a3 a4 a5 a6)
      all_goals
        go_ret
        exact ⟨rfl, HMW.out.trans H8.out⟩
end Go.Proofs.Ytmeooadgdagiiaa.K

namespace Lox
open Go Go.RowKit Go.ChangeShapes Go.WideShapes Go.Deep
set_option linter.unusedVariables false

section
variable {H : Type} {enc : TypeId × Value → H} {P : Program} {w : World} {base : Nat} {spare : Nat → Bool} {held : Bool} {fuel : Nat}

theorem trod_flt {t : TypeId} {k : FloatKind} {cs : List Value} {x : DataW H × List MemPlace} (ht : P.underlying t = some (.float k)) (h : DataW.trod enc P w base spare held fuel t cs = some x) : ∃ b, cs = [.float k b] ∧ (Lit.float k b).wf = true := by
  cases fuel with
  | zero => simp [DataW.trod] at h
  | succ n =>
    unfold DataW.trod at h
    rw [ht] at h
    split at h <;> simp_all

def bitsOf : Value → Nat
  | .float _ b => b
  | _ => 0

theorem spot_none {a : Addr} {v : Value} (h : w.cell? a = some v) : ∃ b o, a = ⟨b, o, none⟩ := by
  obtain ⟨b, o, sp⟩ := a
  have hs : sp = none := by simpa using World.cell?_spot h
  exact ⟨b, o, by rw [hs]⟩

/-- A slice of float numbers that came in. -/
theorem read_floats {t e : TypeId} {cs : List Value} {x : DataW H × List MemPlace} (ht : P.underlying t = some (.slice e)) (he : P.underlying e = some (.float .f64)) (hc : P.cellsOf e = 1)
    (h : DataW.trod enc P w base (fun _ => true) held fuel t cs = some x) : ∃ A n c xs, cs = [.slice A n c] ∧ Sl w A n 1 (flts xs) ∧ n ≤ c ∧ c ≤ 9223372036854775807 ∧ (∀ y ∈ xs, (Lit.float .f64 y).wf = true) := by
  rcases open_slice1 ht hc h with ⟨rfl, _⟩ | ⟨a, len, cap, m, n, V, D, Pl, rfl, _, hl, hm, hmm, _, hV⟩
  · exact ⟨none, 0, 0, [], rfl, Sl.nil _ _, Nat.le_refl _, by omega, fun y hy => by cases hy⟩
  · have hmc : m = cap := by rw [hmm]; simp
    have hB : ∀ i, i < cap → V i = .float .f64 (bitsOf (V i)) ∧ (Lit.float .f64 (bitsOf (V i))).wf = true := fun i hi => by
      obtain ⟨b, e1, e2⟩ := trod_flt he (hV i (by omega)).2
      rw [List.cons.injEq] at e1
      rw [e1.1]
      exact ⟨rfl, e2⟩
    refine ⟨some a, len, cap, (List.range len).map fun i => bitsOf (V i), rfl, ⟨by simp [flts], fun h0 => ?_⟩, hl, hm, fun y hy => ?_⟩
    · have h1 := (hV 0 (by omega)).1
      obtain ⟨b', o', e'⟩ : ∃ b' o', a = ⟨b', o', none⟩ := by
        obtain ⟨ab, ao, sp⟩ := a
        have hs : sp = none := by simpa [Addr.add] using World.cell?_spot h1
        exact ⟨ab, ao, by rw [hs]⟩
      subst e'
      refine ⟨b', o', rfl, fun j v hv => ?_⟩
      unfold flts at hv
      rw [List.map_map, List.getElem?_map] at hv
      by_cases hj : j < len
      · rw [List.getElem?_range hj] at hv
        simp only [Option.map_some, Function.comp, Option.some.injEq] at hv
        rw [← hv, ← (hB j (by omega)).1, ← addr_lit]
        exact (hV j (by omega)).1
      · rw [List.getElem?_eq_none (by simp; omega)] at hv
        cases hv
    · obtain ⟨i, hi, rfl⟩ := List.mem_map.1 hy
      exact (hB i (by have := List.mem_range.1 hi; omega)).2

theorem open_slice_fields {t e : TypeId} {fs : Array Field} {cs : List Value} {x : DataW H × List MemPlace} (ht : P.underlying t = some (.slice e)) (he : P.underlying e = some (.struct fs))
    (hone : oneCellFields P fs = true) (hC : P.cellsOf e = fs.size) (h : DataW.trod enc P w base spare held fuel t cs = some x) :
    (cs = [.slice none 0 0] ∧ x = (.nil, [])) ∨
    ∃ (a : Addr) (len cap m : Nat), cs = [.slice (some a) len cap] ∧ len ≤ cap ∧ cap ≤ maxLen ∧ m = (if spare a.block then cap else len) ∧
      ∀ i, i < m → ∃ n : Nat, ∀ (j : Nat) (f : Field), fs[j]? = some f → ∃ (v : Value) (y : DataW H × List MemPlace), w.cell? (a.add (i * fs.size + j)) = some v ∧ DataW.trod enc P w base spare held n f.type [v] = some y := by
  rcases open_slice ht h with h0 | ⟨a, len, cap, m, n, D, Pl, hcs, hb, hl, hm, hmm, hx, hi⟩
  · exact .inl h0
  · refine .inr ⟨a, len, cap, m, hcs, hl, hm, hmm, fun i him => ?_⟩
    obtain ⟨cs', hc, ht'⟩ := hi i him
    rw [hC] at hc
    obtain ⟨ys, n', hn', hy, hlen, hyl, hf⟩ := DataW.trod_struct he ht'
    obtain ⟨_, hcl, hat⟩ := World.cells?_some hc
    refine ⟨n', fun j f hj => ?_⟩
    obtain ⟨ho, hk⟩ := hone_of hone j f hj
    have hjl : j < fs.size := (Array.getElem?_eq_some_iff.1 hj).1
    have hcell := hat j hjl
    have hv : cs'[j]? = some (cs'[j]'(by omega)) := List.getElem?_eq_getElem (by omega)
    have h1 := hf j f hj
    rw [ho, hk] at h1
    have hone' : (cs'.drop j).take 1 = [cs'[j]'(by omega)] := by
      rw [List.drop_eq_getElem_cons (by omega)]
      rfl
    rw [hone'] at h1
    have hys : ys[j]? = some (ys[j]'(by omega)) := List.getElem?_eq_getElem (by omega)
    refine ⟨_, _, ?_, h1.trans hys⟩
    rw [← Go.Deep.add_add, hcell, hv]

/-- A slice of slices of float numbers that came in. -/
theorem read_rows {t s e : TypeId} {cs : List Value} {x : DataW H × List MemPlace} (ht : P.underlying t = some (.slice s)) (hs1 : P.cellsOf s = 1) (hs : P.underlying s = some (.slice e)) (he : P.underlying e = some (.float .f64)) (hc : P.cellsOf e = 1)
    (h : DataW.trod enc P w base (fun _ => true) held fuel t cs = some x) : ∃ (A : Option Addr) (n c : Nat) (pts : List Pt), cs = [.slice A n c] ∧ Sl w A n 1 (pts.map Pt.v) ∧ n ≤ c ∧ c ≤ 9223372036854775807 ∧ ∀ p ∈ pts, Sl w p.A p.n 1 (flts p.xs) ∧ p.n ≤ 9223372036854775807 := by
  rcases open_slice1 ht hs1 h with ⟨rfl, _⟩ | ⟨a, len, cap, m, n, V, D, Pl, rfl, _, hl, hm, hmm, _, hV⟩
  · exact ⟨none, 0, 0, [], rfl, Sl.nil _ _, Nat.le_refl _, by omega, fun y hy => by cases hy⟩
  · have hmc : m = cap := by rw [hmm]; simp
    obtain ⟨F, hF⟩ := choose_lt (α := Pt) (n := cap) (p := fun i p => V i = p.v ∧ Sl w p.A p.n 1 (flts p.xs) ∧ p.n ≤ 9223372036854775807) (fun i hi => by
      obtain ⟨A, q, c, xs, e1, e2, e3, e4, _⟩ := read_floats hs he hc (hV i (by omega)).2
      rw [List.cons.injEq] at e1
      exact ⟨⟨A, q, c, xs⟩, e1.1, e2, by show q ≤ _; omega⟩)
    refine ⟨some a, len, cap, (List.range len).map F, rfl, ⟨by simp, fun h0 => ?_⟩, hl, hm, fun p hp => ?_⟩
    · have h1 := (hV 0 (by omega)).1
      obtain ⟨b', o', e'⟩ : ∃ b' o', a = ⟨b', o', none⟩ := by
        obtain ⟨ab, ao, sp⟩ := a
        have hs : sp = none := by simpa [Addr.add] using World.cell?_spot h1
        exact ⟨ab, ao, by rw [hs]⟩
      subst e'
      refine ⟨b', o', rfl, fun j v hv => ?_⟩
      rw [List.map_map, List.getElem?_map] at hv
      by_cases hj : j < len
      · rw [List.getElem?_range hj] at hv
        simp only [Option.map_some, Function.comp, Option.some.injEq] at hv
        rw [← hv, ← (hF j (by omega)).1, ← addr_lit]
        exact (hV j (by omega)).1
      · rw [List.getElem?_eq_none (by simp; omega)] at hv
        cases hv
    · obtain ⟨i, hi, rfl⟩ := List.mem_map.1 hp
      exact (hF i (by have := List.mem_range.1 hi; omega)).2
end
end Lox

namespace Lox
open Go Go.RowKit Go.ChangeShapes Go.WideShapes Go.Deep
set_option linter.unusedVariables false

section
variable {H : Type} {enc : TypeId × Value → H} {P : Program} {w : World} {base : Nat} {spare : Nat → Bool} {held : Bool} {fuel : Nat}

theorem trod_i64 {t : TypeId} {cs : List Value} {x : DataW H × List MemPlace} (ht : P.underlying t = some (.int .i64)) (h : DataW.trod enc P w base spare held fuel t cs = some x) : ∃ b, cs = [.int .i64 b] ∧ (Lit.int .i64 b).wf = true := by
  cases fuel with
  | zero => simp [DataW.trod] at h
  | succ n =>
    unfold DataW.trod at h
    rw [ht] at h
    split at h <;> simp_all

def numOf : Value → Int
  | .int _ b => b
  | _ => 0

/-- A slice of whole numbers that came in. -/
theorem read_ints {t e : TypeId} {cs : List Value} {x : DataW H × List MemPlace} (ht : P.underlying t = some (.slice e)) (he : P.underlying e = some (.int .i64)) (hc : P.cellsOf e = 1)
    (h : DataW.trod enc P w base (fun _ => true) held fuel t cs = some x) : ∃ A n c xs, cs = [.slice A n c] ∧ Sl w A n 1 (ints xs) ∧ n ≤ c ∧ c ≤ 9223372036854775807 ∧ (∀ y ∈ xs, (Lit.int .i64 y).wf = true) ∧ (A = none → c = 0) := by
  rcases open_slice1 ht hc h with ⟨rfl, _⟩ | ⟨a, len, cap, m, n, V, D, Pl, rfl, _, hl, hm, hmm, _, hV⟩
  · exact ⟨none, 0, 0, [], rfl, ⟨by simp [ints], fun h => by omega⟩, Nat.le_refl _, by omega, fun y hy => (by cases hy), fun _ => rfl⟩
  · have hmc : m = cap := by rw [hmm]; simp
    have hB : ∀ i, i < cap → V i = .int .i64 (numOf (V i)) ∧ (Lit.int .i64 (numOf (V i))).wf = true := fun i hi => by
      obtain ⟨b, e1, e2⟩ := trod_i64 he (hV i (by omega)).2
      rw [List.cons.injEq] at e1
      rw [e1.1]
      exact ⟨rfl, e2⟩
    refine ⟨some a, len, cap, (List.range len).map fun i => numOf (V i), rfl, ⟨by simp [ints], fun h0 => ?_⟩, hl, hm, fun y hy => ?_, fun e => by cases e⟩
    · have h1 := (hV 0 (by omega)).1
      obtain ⟨b', o', e'⟩ : ∃ b' o', a = ⟨b', o', none⟩ := by
        obtain ⟨ab, ao, sp⟩ := a
        have hs : sp = none := by simpa [Addr.add] using World.cell?_spot h1
        exact ⟨ab, ao, by rw [hs]⟩
      subst e'
      refine ⟨b', o', rfl, fun j v hv => ?_⟩
      unfold ints at hv
      rw [List.map_map, List.getElem?_map] at hv
      by_cases hj : j < len
      · rw [List.getElem?_range hj] at hv
        simp only [Option.map_some, Function.comp, Option.some.injEq] at hv
        rw [← hv, ← (hB j (by omega)).1, ← addr_lit]
        exact (hV j (by omega)).1
      · rw [List.getElem?_eq_none (by simp; omega)] at hv
        cases hv
    · obtain ⟨i, hi, rfl⟩ := List.mem_map.1 hy
      exact (hB i (by have := List.mem_range.1 hi; omega)).2
end

theorem wf_le {y : Int} (h : (Lit.int .i64 y).wf = true) : y ≤ 9223372036854775807 := by
  simp only [Lit.wf, Bool.and_eq_true, decide_eq_true_eq] at h
  have e : IntKind.i64.max = 9223372036854775807 := by decide
  rw [e] at h
  exact h.2
end Lox
namespace Go.Proofs.Ytmeooadgdagiiaa
open Go.RowKit Lox Go.ChangeShapes Go.WideShapes Go.Deep

section
variable {H : Type} {enc : TypeId × Value → H} {P : Program} {w : World} {base : Nat} {held : Bool} {fuel : Nat}

/-- A list of points that came in. -/
theorem read_points {t s e : TypeId} {cs : List Value} {x : DataW H × List MemPlace} (ht : P.underlying t = some (.slice s)) (hs1 : P.cellsOf s = 1) (hs : P.underlying s = some (.slice e)) (he : P.underlying e = some (.float .f64)) (hc : P.cellsOf e = 1)
    (h : DataW.trod enc P w base (fun _ => true) held fuel t cs = some x) : ∃ r : RR, cs = [r.v] ∧ r.Ok w := by
  obtain ⟨A, n, c, pts, e1, h1, h2, h3, h4⟩ := read_rows ht hs1 hs he hc h
  have hl : pts.length = n := by have := h1.1; simpa using this
  have hv : (pts.map fun p => (⟨p.A, p.c, p.xs⟩ : TP)).map TP.v = pts.map Lox.Pt.v := by
    rw [List.map_map]
    refine List.map_congr_left fun p hp => ?_
    have h5 := (h4 p hp).1.1
    have h6 : p.xs.length = p.n := by simpa [flts] using h5
    show Value.slice p.A p.xs.length p.c = .slice p.A p.n p.c
    rw [h6]
  refine ⟨⟨A, c, pts.map fun p => ⟨p.A, p.c, p.xs⟩⟩, ?_, ?_, ?_, ?_⟩
  · rw [e1]; simp only [RR.v, List.length_map, hl]
  · rw [List.length_map, hv, hl]; exact h1
  · intro q hq
    obtain ⟨p, hp, rfl⟩ := List.mem_map.1 hq
    have h5 := (h4 p hp).1
    have h6 : p.xs.length = p.n := by have := h5.1; simpa [flts] using this
    exact ⟨by show Sl w p.A p.xs.length 1 _; rw [h6]; exact h5, by show p.xs.length ≤ _; rw [h6]; exact (h4 p hp).2⟩
  · show (List.map _ pts).length ≤ _
    rw [List.length_map]; omega
end
end Go.Proofs.Ytmeooadgdagiiaa
