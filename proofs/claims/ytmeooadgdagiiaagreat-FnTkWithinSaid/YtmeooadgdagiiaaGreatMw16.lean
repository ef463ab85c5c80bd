/- Steps of a proof, one behind another: The walk of the law FnTkWithin. How arguments that came in read: slices of float numbers. How the laws' arguments read: lists of points, picks. Conditions: as each theorem says. -/
import Derived.Test.YtmeooadgdagiiaaGreatMw15
import Derived.Deep.QuietTactic
import Derived.Deep.Slices
import Derived.Deep.Fields
import Derived.ChangeSame
import Derived.Laws.Cover2

namespace Go.Proofs.YtmeooadgdagiiaaGreat.K.D
open Go.RowKit Lox Go.Sort
set_option linter.unusedVariables false
attribute [local go_sem] run_store_flt run_store_fn

theorem sl_take {w : World} {A : Option Addr} {n L : Nat} {xs : List Nat} (h : Sl w A n 1 (flts xs)) (hL : L ≤ n) : Sl w A L 1 (flts (xs.take L)) := by
  have hl : xs.length = n := by have := h.1; simpa [flts] using this
  refine ⟨by simp [flts, hl]; omega, fun h0 => ?_⟩
  obtain ⟨b, o, e, hc⟩ := h.2 (by omega)
  refine ⟨b, o, e, fun j v hv => hc j v ?_⟩
  unfold flts at hv ⊢
  rw [List.getElem?_map, List.getElem?_take] at hv
  rw [List.getElem?_map]
  split at hv
  · exact hv
  · cases hv

/-- What the tree tells the search within a distance. -/
def KwAny (A : Option Addr) (c N5 nq : Nat) (Q : Option Addr) (cq : Nat) (qx : List Nat) (pts : List (List Nat)) (w : World) : Prop :=
  ∀ S : Nat, Lox.Fin S → Calls Tryz.prog 8 #[.slice A N5 c, .slice Q nq cq, .float .f64 S] w (KsTold S nq qx pts w)

theorem kw_any {A Q : Option Addr} {c cq n m N5 nq B : Nat} {ps ins qs is : List TP} {qx ks : List Nat} {pk : List Int} {rs : List KR} {mt : MT} {w : World} (hg : NrGood ps ins qx nq n m pk) (hn : ps.length = n) (hm : ins.length = m) (hN : N5 = rs.length) (k1 : KS B w nq (.slice A N5 c) rs) (k2 : rs.map KR.plain = mt.flat 0) (k3 : mt.T = KB.inss leB nq (KB.build leB nq n qs ks 0).1 is) (k4 : mt.bare) (k5 : qs.map TP.xs = ps.map TP.xs) (k6 : is.map TP.xs = ins.map TP.xs) (hq : Sl w Q nq 1 (flts qx)) :
    ∃ pts, pts.Perm ((ps ++ ins).map TP.xs) ∧ KwAny A c N5 nq Q cq qx pts w := by
  by_cases h0 : 0 < n + m
  · have hG : Grown nq (ps ++ ins) mt rs := grown_of hg.2.2.1.1 hn hm h0 hg.1 k2 k3 k4 k5 k6
    refine ⟨mt.pts.map TP.xs, hG.pts, fun S hS => ?_⟩
    exact kset_at A Q c N5 cq nq B S qx rs mt w hg.2.2.1 hN hG.box hG.some k1 hG.seg hq hg.2.1 hG.good hG.ord hG.each (by have := hG.pts.length_eq; rw [List.length_map, List.length_map, List.length_append, hn, hm] at this; have := hg.2.2.2.1; omega) hS
  · have hn0 : n = 0 := by omega
    have hm0 : m = 0 := by omega
    have hp : ps = [] := List.length_eq_zero_iff.1 (by omega)
    have hi : ins = [] := List.length_eq_zero_iff.1 (by omega)
    have hql : qs.length = n := by have := congrArg List.length k5; rw [List.length_map, List.length_map] at this; omega
    have hil : is.length = 0 := by have := congrArg List.length k6; rw [List.length_map, List.length_map] at this; omega
    have hc := kb_count k3
    rw [kb_size hg.2.2.1.1 hql, hil, hn0] at hc
    have hr : rs.length = 0 := by
      have h1 := congrArg List.length k2
      rw [List.length_map] at h1
      rw [h1]
      cases mt with
      | nil => rfl
      | node g p d bx l r => simp only [MT.count] at hc; omega
    rw [hr] at hN
    subst hN
    exact ⟨[], by rw [hp, hi]; exact List.Perm.refl _, fun S hS => kset0_at A Q c cq nq S qx w hg.2.2.1 hq hS⟩

theorem count_found {all : List TP} {fs : List (TP × Nat)} {rest pts : List (List Nat)} (h1 : (fs.map (·.1.xs) ++ rest).Perm pts) (h2 : pts.Perm (all.map TP.xs)) : ∀ κ, ((fs.map (·.1)).map TP.key).count κ ≤ (all.map TP.key).count κ := by
  intro κ
  have h3 := ((h1.trans h2).map fun y : List Nat => y.map zi).count_eq κ
  rw [List.map_append, List.count_append, List.map_map, List.map_map] at h3
  rw [List.map_map]
  have e1 : (TP.key ∘ fun x : TP × Nat => x.1) = ((fun y : List Nat => y.map zi) ∘ fun x : TP × Nat => x.1.xs) := rfl
  have e2 : (TP.key : TP → List Int) = ((fun y : List Nat => y.map zi) ∘ TP.xs) := rfl
  rw [e1, e2]
  omega

theorem rows_of {w W : World} {O I A3 : Option Addr} {c ci n m N nq : Nat} {ps ins : List TP} {qx : List Nat} {pk : List Int} {w3 : World} (h3 : Sl w3 A3 N 1 ((ps ++ ins).map TP.v)) (hx : RR.Ok w ⟨O, c, ps⟩) (hy : RR.Ok w ⟨I, ci, ins⟩) (hg : NrGood ps ins qx nq n m pk) (h03 : Mod (fun _ => False) w w3) (h3W : Mod (fun _ => False) w3 W) : PRows W A3 N (ps ++ ins) nq := nr_rows h3 hx hy hg h03 h3W

/-- What is done with what was found. -/
theorem wi_told {A3 Q F V : Option Addr} {c3 cq cF cV N nq L n m : Nat} {ps ins : List TP} {qx ws : List Nat} {pk : List Int} {pts rest : List (List Nat)} {fs : List (TP × Nat)} {w : World} (hg : NrGood ps ins qx nq n m pk) (hN : N ≤ 2147483647) (hr : PRows w A3 N (ps ++ ins) nq) (hq : Sl w Q nq 1 (flts qx)) (hql : qx.length = nq) (hp : pts.Perm ((ps ++ ins).map TP.xs))
    (h1 : FRows w F L fs) (h2 : ∀ x ∈ fs, x.1.Ok w nq) (h3 : FRes nq qx pts fs rest) (hV : Sl w V N 1 (flts ws)) (hLN : L ≤ N) (hgd : ∀ (i : Nat) (x : TP × Nat) (y : Nat), fs[i]? = some x → ws[i]? = some y → Gd 0 y (sqx qx x.1.xs nq)) :
    Calls Tryz.prog 9 #[.slice F L cF, .slice A3 N c3, .slice Q nq cq, .slice V L cV] w fun e w' => e = .returned (.bool true) ∧ Mod (fun _ => False) w w' := by
  refine found_at F A3 V L cF N c3 cV nq fs (ps ++ ins) ⟨Q, cq, qx⟩ (ws.take L) w h1 (fun x hx => ?_) (sl_take hV hLN) (fun i x y hi hj => ?_) hr (fun p hp => (hg.1 p hp).2) ⟨hql, by show Sl w Q qx.length 1 _; rw [hql]; exact hq⟩ (TP.gr_of hg.2.1) (count_found h3.perm hp) (by omega) hg.2.2.1.2
  · have hm : x.1.xs ∈ pts := h3.perm.mem_iff.1 (List.mem_append_left _ (List.mem_map.2 ⟨x, hx, rfl⟩))
    obtain ⟨p, hp1, hp2⟩ := List.mem_map.1 (hp.mem_iff.1 hm)
    obtain ⟨o1, o2⟩ := h2 x hx
    exact ⟨⟨o2, by rw [o1]; have := hg.2.2.1.2; omega⟩, o1, gr_xs (hg.1 p hp1).2 hp2.symm⟩
  · have hi2 : i < L := by have := h1.len; have := (List.getElem?_eq_some_iff.1 hi).1; omega
    rw [List.getElem?_take_of_lt hi2] at hj
    rw [sqx_comm x.1.xs qx]
    exact ⟨(h3.dv x (List.mem_of_getElem? hi)).1, hgd i x y hi hj⟩

set_option maxRecDepth 100000 in
set_option maxHeartbeats 8000000 in
theorem fnTkWithin_at (x y : RR) (P Q : Option Addr) (cp nk cq nq d : Nat) (pk : List Int) (qx : List Nat) (w : World) (hx : x.Ok w) (hy : y.Ok w) (hP : Sl w P nk 1 (ints pk)) (hPA : P = none → cp = 0) (hnk : nk ≤ 9223372036854775807) (hpk : ∀ k ∈ pk, k ≤ 9223372036854775807) (hQ : Sl w Q nq 1 (flts qx)) (hnq : nq ≤ 9223372036854775807) :
    Calls Tryz.prog 3 #[x.v, .slice P nk cp, y.v, .slice Q nq cq, .float .f64 d] w (Yes w) := by
  have hpl : pk.length = nk := by have := hP.1; simpa [ints] using this
  have hql : qx.length = nq := by have := hQ.1; simpa [flts] using this
  obtain ⟨O, c, ps⟩ := x
  obtain ⟨I, ci, ins⟩ := y
  obtain ⟨n, hn⟩ : ∃ n, ps.length = n := ⟨_, rfl⟩
  obtain ⟨m, hm⟩ : ∃ m, ins.length = m := ⟨_, rfl⟩
  obtain ⟨N, hN⟩ : ∃ N, N = n + m := ⟨_, rfl⟩
  have ex : (RR.mk O c ps).v = .slice O n c := by rw [← hn]; rfl
  have ey : (RR.mk I ci ins).v = .slice I m ci := by rw [← hm]; rfl
  have hnl : n ≤ 9223372036854775807 := by rw [← hn]; exact hx.2.2
  have hml : m ≤ 9223372036854775807 := by rw [← hm]; exact hy.2.2
  have FX : Hid (∀ W : World, Mod (fun _ => False) w W → Calls Tryz.prog 4 #[.slice O n c] W (FitsTold ⟨O, c, ps⟩ W)) := fun W hm => by rw [← ex]; exact fits4_any _ W (hx.mod hm)
  have FY : Hid (∀ W : World, Mod (fun _ => False) w W → Calls Tryz.prog 4 #[.slice I m ci] W (FitsTold ⟨I, ci, ins⟩ W)) := fun W h => by rw [← ey]; exact fits4_any _ W (hy.mod h)
  rw [ex, ey]
  have HX := Lib.hid (And.intro hx (And.intro hy (And.intro hP (And.intro hPA (And.intro hpk (And.intro hpl (And.intro hn (And.intro hm (And.intro hQ (And.intro hql hN))))))))))
  clear ex ey hx hy hP hPA hpk hpl hn hm hQ hql
  have ALL : Hid (n ≤ 2147483647 → m ≤ 2147483647 → Calls Tryz.prog 5 #[.slice O n c, .slice I m ci] w (AllTold ps ins N w)) := fun h1 h2 => by
    rw [HX.out.2.2.2.2.2.2.2.2.2.2]
    exact all_at ⟨O, c, ps⟩ ⟨I, ci, ins⟩ n m w HX.out.1 HX.out.2.1 HX.out.2.2.2.2.2.2.1 HX.out.2.2.2.2.2.2.2.1 ⟨h1, h2⟩
  by_cases hbig : 2147483647 < nk
  · clear hN
    go_enter Tryz.func3, Tryz.ntmps3
    have tok1 : True := trivial
    go_wp2_with (first | (go_at_call 4; have _t := tok1; clear _t tok1; refine (FX.out _ (Mod.refl _ _)).mono ?_; rintro _ w1 ⟨b1, rfl, rfl, hb1⟩; have HB1 := Lib.hid hb1; clear hb1))
    all_goals
      go_ret
      exact ⟨rfl, Mod.refl _ _⟩
  have hdk : decide ((2147483647 : Int) < (nk : Int)) = false := decide_eq_false (by omega)
  by_cases hbq : 2147483647 < nq
  · clear hN
    go_enter Tryz.func3, Tryz.ntmps3
    have tok1 : True := trivial
    go_wp2_with (first | (go_at_call 4; have _t := tok1; clear _t tok1; refine (FX.out _ (Mod.refl _ _)).mono ?_; rintro _ w1 ⟨b1, rfl, rfl, hb1⟩; have HB1 := Lib.hid hb1; clear hb1) | (go_at_call 4; refine (FY.out _ (Mod.refl _ _)).mono ?_; rintro _ w2 ⟨b2, rfl, rfl, hb2⟩; have HB2 := Lib.hid hb2; clear hb2))
    all_goals
      go_ret
      exact ⟨rfl, Mod.refl _ _⟩
  have hdq : decide ((2147483647 : Int) < (nq : Int)) = false := decide_eq_false (by omega)
  obtain ⟨g1, hg1⟩ : ∃ g1 : Bool, (FloatKind.f64.format.order d 0 == some .gt || FloatKind.f64.format.order d 0 == some .eq) = g1 := ⟨_, rfl⟩
  obtain ⟨g2, hg2⟩ : ∃ g2 : Bool, (FloatKind.f64.format.order d 4832362400168542208 == some .lt || FloatKind.f64.format.order d 4832362400168542208 == some .eq) = g2 := ⟨_, rfl⟩
  by_cases hgg : g1 = true ∧ g2 = true
  · obtain ⟨rfl, rfl⟩ := hgg
    have hS : Lox.Fin d := fin_between (lo := 0) (hi := 4832362400168542208) ⟨_, _, _, rfl⟩ ⟨_, _, _, rfl⟩ hg1 hg2
    have HS := Lib.hid hS
    clear hS
    have SM : Hid (∀ W : World, Mod (fun _ => False) w W → n ≤ 2147483647 → m ≤ 2147483647 → Calls Tryz.prog 6 #[.int .i64 nq, .float .f64 4697254411347427328, .slice P nk cp, .slice (some ⟨W.heap.size + 1, 0, none⟩) 3 3] ((W.alloc (.cells #[.slice Q nq cq] 24)).alloc (.cells #[.slice O n c, .slice I m ci, .slice (some ⟨W.heap.size, 0, none⟩) 1 1] 22)) fun e w' => ((W.alloc (.cells #[.slice Q nq cq] 24)).alloc (.cells #[.slice O n c, .slice I m ci, .slice (some ⟨W.heap.size, 0, none⟩) 1 1] 22)) = w' ∧ ∃ b, e = .returned (.bool b) ∧ (b = true → NrGood ps ins qx nq n m pk)) := by
      intro W hW h1 h2
      exact nr_some W hW HX.out.1 HX.out.2.1 HX.out.2.2.1 HX.out.2.2.2.2.2.2.1 HX.out.2.2.2.2.2.2.2.1 HX.out.2.2.2.2.2.2.2.2.1 HX.out.2.2.2.2.2.2.2.2.2.1 (by omega) h1 h2 (by omega)
    have KBF : Hid (∀ W : World, Mod (fun _ => False) w W → NrGood ps ins qx nq n m pk → Calls Tryz.prog 7 #[.slice O n c, .slice P nk cp, .bool false, .slice I m ci] W (KbTold nq n m ps ins (pk.map Int.toNat) W)) := by
      intro W hW h
      obtain ⟨g1, g2, g3, g4, g5, g6, g7, g8, -⟩ := HX.out
      obtain ⟨h1, h2, h3, h4, h5⟩ := h
      refine kbuild_at _ P I n c nk cp m ci nq ps ins _ W ⟨by rw [← g7]; exact (g1.mod hW).1, fun p hp => ⟨(g1.mod hW).2.1 p hp, (h1 p (by simp [hp])).1⟩⟩ ⟨by rw [← g8]; exact (g2.mod hW).1, fun p hp => ⟨(g2.mod hW).2.1 p hp, (h1 p (by simp [hp])).1⟩⟩ (by rw [List.length_map, g6]) (by rw [ints_nat h5.2]; exact g3.mod hW) g4 ?_ (fun p hp => (h1 p (by simp [hp])).2) (fun p hp => (h1 p (by simp [hp])).2) (by omega) (by omega)
      intro k hk
      obtain ⟨k', hk', rfl⟩ := List.mem_map.1 hk
      have := g5 k' hk'
      omega
    clear hN
    go_enter Tryz.func3, Tryz.ntmps3
    have tok1 : True := trivial
    go_wp2_with (first
      | (go_at_call 4; have _t := tok1; clear _t tok1; refine (FX.out _ (Mod.refl _ _)).mono ?_; rintro _ w1 ⟨b1, rfl, rfl, hb1⟩; have HB1 := Lib.hid hb1; clear hb1)
      | (go_at_call 4; refine (FY.out _ (Mod.refl _ _)).mono ?_; rintro _ w2 ⟨b2, rfl, rfl, hb2⟩; have HB2 := Lib.hid hb2; clear hb2)
      | (go_at_call 5; refine (ALL.out (by have h1 : ps.length ≤ 2147483647 := (HB1.out (by first | assumption | exact not_false (by assumption))).1; have h2 := HX.out.2.2.2.2.2.2.1; omega) (by have h1 : ins.length ≤ 2147483647 := (HB2.out (by first | assumption | exact not_false (by assumption))).1; have h2 := HX.out.2.2.2.2.2.2.2.1; omega)).mono ?_; rintro _ w3 ⟨A3, c3, rfl, a1, a2, a3⟩; have H3 := Lib.hid (And.intro a1 (And.intro a2 a3)); clear a1 a2 a3)
      | (go_at_call 6; refine (SM.out w3 H3.out.2.1 (by have h1 : ps.length ≤ 2147483647 := (HB1.out (by first | assumption | exact not_false (by assumption))).1; have h2 := HX.out.2.2.2.2.2.2.1; omega) (by have h1 : ins.length ≤ 2147483647 := (HB2.out (by first | assumption | exact not_false (by assumption))).1; have h2 := HX.out.2.2.2.2.2.2.2.1; omega)).mono ?_; rintro _ w4 ⟨rfl, b3, rfl, hb3⟩; have HB3 := Lib.hid hb3; clear hb3)
      | (go_at_call 7; have hgo := HB3.out (by first | assumption | exact not_false (by assumption)); refine (KBF.out _ ((H3.out.2.1.alloc _).alloc _) hgo).mono ?_; rintro _ w5 ⟨v, rs, mt, qs, is, rfl, k1, k2, k3, k4, k5, k6, k7, ⟨A5, c5, rfl⟩⟩; obtain ⟨N5, hN5⟩ : ∃ N5, N5 = rs.length := ⟨_, rfl⟩; rw [← hN5] at k1; rw [← hN5]; have hm35 : Mod (fun _ => False) w3 w5 := (((Mod.refl _ _).alloc _).alloc _).trans k7; obtain ⟨pts, p1, p2⟩ := kw_any (cq := cq) hgo HX.out.2.2.2.2.2.2.1 HX.out.2.2.2.2.2.2.2.1 hN5 k1 k2 k3 k4 k5 k6 (HX.out.2.2.2.2.2.2.2.2.1.mod (H3.out.2.1.trans hm35)); have HK := Lib.hid (And.intro hgo (And.intro hm35 (And.intro p1 p2))); clear k1 k2 k3 k4 k5 k6 k7 hN5 hgo hm35 p1 p2)
      | (go_at_call 8; refine (HK.out.2.2.2 d HS.out).mono ?_; rintro _ w6 ⟨F6, c6, N6, fs6, rest6, rfl, a1, a2, a3, a4, a5⟩; have H6 := Lib.hid (And.intro a1 (And.intro a2 (And.intro a3 (And.intro a4 (HK.out.2.1.trans a5))))); clear a1 a2 a3 a4 a5)
      | (go_at_call 11; have hbd := HK.out.1.2.2.2.1; have hNe := HX.out.2.2.2.2.2.2.2.2.2.2; refine (squares_at A3 N c3 nq (ps ++ ins) ⟨Q, cq, qx⟩ w6 (nr_rows H3.out.1 HX.out.1 HX.out.2.1 HK.out.1 H3.out.2.1 H6.out.2.2.2.2) (fun p hp => (HK.out.1.1 p hp).2) ⟨HX.out.2.2.2.2.2.2.2.2.2.1, by show Sl w6 Q qx.length 1 _; rw [HX.out.2.2.2.2.2.2.2.2.2.1]; exact HX.out.2.2.2.2.2.2.2.2.1.mod (H3.out.2.1.trans H6.out.2.2.2.2)⟩ (TP.gr_of HK.out.1.2.1) (by omega) HK.out.1.2.2.1.2).mono ?_; rintro _ w7 ⟨V, cV, ws, rfl, s1, s2, s3, s4, s5, s6, s7⟩; have hup := upto_len H6.out.2.2.1 H6.out.2.2.2.1.1 H6.out.2.2.2.1.2 s4 s5 (s6.trans (by have h1 := (HK.out.2.2.1.map fun y => sqx qx y nq).symm; rw [List.map_map] at h1; have h2 : (fun p : TP => sqx p.xs qx nq) = ((fun y => sqx qx y nq) ∘ TP.xs) := funext fun p => sqx_comm p.xs qx nq; show ((ps ++ ins).map fun p : TP => sqx p.xs qx nq).Perm _; rw [h2]; exact h1)); have hwl : ws.length = N := (by have := s1.1; simpa [flts] using this); have hl6 : fs6.length = N6 := H6.out.1.len; rw [hl6, hwl] at hup; have H7 := Lib.hid (And.intro s1 (And.intro (And.intro s2 s3) (And.intro s5 (And.intro s7 (And.intro hup (by omega : N ≤ 2147483647)))))); clear s1 s2 s3 s4 s5 s6 s7 hup hwl hl6 hbd hNe)
      | (go_at_call 10; refine (upTo_at V N cV N6 d ws w7 H7.out.1 H7.out.2.1 H7.out.2.2.2.2.2 H7.out.2.2.2.2.1.1 HS.out (fun y hy => (zv_gd (H7.out.2.2.1 y hy)).1) H7.out.2.2.2.2.1.2.2.1 H7.out.2.2.2.2.1.2.2.2).mono ?_; rintro _ w8 ⟨⟨cU, rfl⟩, u1⟩; have H8 := Lib.hid u1; clear u1)
      | (go_at_call 9; refine (wi_told (cF := c6) (c3 := c3) (cq := cq) (cV := cU) HK.out.1 H7.out.2.2.2.2.2 (nr_rows H3.out.1 HX.out.1 HX.out.2.1 HK.out.1 H3.out.2.1 ((H6.out.2.2.2.2.trans H7.out.2.2.2.1).trans H8.out)) (HX.out.2.2.2.2.2.2.2.2.1.mod (H3.out.2.1.trans ((H6.out.2.2.2.2.trans H7.out.2.2.2.1).trans H8.out))) HX.out.2.2.2.2.2.2.2.2.2.1 HK.out.2.2.1 (H6.out.1.mod (H7.out.2.2.2.1.trans H8.out)) (fun x hx => (H6.out.2.1 x hx).mod0 (H7.out.2.2.2.1.trans H8.out)) H6.out.2.2.1 (H7.out.1.mod H8.out) H7.out.2.2.2.2.1.1 H7.out.2.2.2.2.1.2.1).mono ?_; rintro _ w9 ⟨rfl, u1⟩; have H9 := Lib.hid u1; clear u1))
    all_goals first
      | (go_ret; exact ⟨rfl, by first | exact Mod.refl _ _ | exact H3.out.2.1 | exact (H3.out.2.1.alloc _).alloc _ | exact ((H3.out.2.1.trans ((H6.out.2.2.2.2.trans H7.out.2.2.2.1).trans H8.out)).trans H9.out)⟩)
  · have hgf : g1 = false ∨ (g1 = true ∧ g2 = false) := by
      cases g1 with
      | false => exact .inl rfl
      | true => cases g2 with
        | false => exact .inr ⟨rfl, rfl⟩
        | true => exact absurd ⟨rfl, rfl⟩ hgg
    clear hgg hN
    rcases hgf with rfl | ⟨rfl, rfl⟩
    all_goals
      go_enter Tryz.func3, Tryz.ntmps3
      have tok1 : True := trivial
      go_wp2_with (first
        | (go_at_call 4; have _t := tok1; clear _t tok1; refine (FX.out _ (Mod.refl _ _)).mono ?_; rintro _ w1 ⟨b1, rfl, rfl, hb1⟩; have HB1 := Lib.hid hb1; clear hb1)
        | (go_at_call 4; refine (FY.out _ (Mod.refl _ _)).mono ?_; rintro _ w2 ⟨b2, rfl, rfl, hb2⟩; have HB2 := Lib.hid hb2; clear hb2)
        | (go_at_call 5; refine (ALL.out (by have h1 : ps.length ≤ 2147483647 := (HB1.out (by first | assumption | exact not_false (by assumption))).1; have h2 := HX.out.2.2.2.2.2.2.1; omega) (by have h1 : ins.length ≤ 2147483647 := (HB2.out (by first | assumption | exact not_false (by assumption))).1; have h2 := HX.out.2.2.2.2.2.2.2.1; omega)).mono ?_; rintro _ w3 ⟨A3, c3, rfl, a1, a2, a3⟩; have H3 := Lib.hid (And.intro a1 (And.intro a2 a3)); clear a1 a2 a3))
      all_goals first
        | (go_ret; exact ⟨rfl, by first | exact Mod.refl _ _ | exact H3.out.2.1⟩)
end Go.Proofs.YtmeooadgdagiiaaGreat.K.D

namespace Lox
open Go Go.RowKit Go.ChangeShapes Go.WideShapes Go.Deep
set_option linter.unusedVariables false

section
variable {H : Type} {enc : TypeId × Value → H} {P : Program} {w : World} {base : Nat} {spare : Nat → Bool} {held : Bool} {fuel : Nat}

theorem trod_flt {t : TypeId} {k : FloatKind} {cs : List Value} {x : DataW H × List MemPlace} (ht : P.underlying t = some (.float k)) (h : DataW.trod enc P w base spare held fuel t cs = some x) : ∃ b, cs = [.float k b] ∧ (Lit.float k b).wf = true := by
  cases fuel with
  | zero => simp [DataW.trod] at h
  | succ n =>
    unfold DataW.trod at h
    rw [ht] at h
    split at h <;> simp_all

def bitsOf : Value → Nat
  | .float _ b => b
  | _ => 0

theorem spot_none {a : Addr} {v : Value} (h : w.cell? a = some v) : ∃ b o, a = ⟨b, o, none⟩ := by
  obtain ⟨b, o, sp⟩ := a
  have hs : sp = none := by simpa using World.cell?_spot h
  exact ⟨b, o, by rw [hs]⟩

/-- A slice of float numbers that came in. -/
theorem read_floats {t e : TypeId} {cs : List Value} {x : DataW H × List MemPlace} (ht : P.underlying t = some (.slice e)) (he : P.underlying e = some (.float .f64)) (hc : P.cellsOf e = 1)
    (h : DataW.trod enc P w base (fun _ => true) held fuel t cs = some x) : ∃ A n c xs, cs = [.slice A n c] ∧ Sl w A n 1 (flts xs) ∧ n ≤ c ∧ c ≤ 9223372036854775807 ∧ (∀ y ∈ xs, (Lit.float .f64 y).wf = true) := by
  rcases open_slice1 ht hc h with ⟨rfl, _⟩ | ⟨a, len, cap, m, n, V, D, Pl, rfl, _, hl, hm, hmm, _, hV⟩
  · exact ⟨none, 0, 0, [], rfl, Sl.nil _ _, Nat.le_refl _, by omega, fun y hy => by cases hy⟩
  · have hmc : m = cap := by rw [hmm]; simp
    have hB : ∀ i, i < cap → V i = .float .f64 (bitsOf (V i)) ∧ (Lit.float .f64 (bitsOf (V i))).wf = true := fun i hi => by
      obtain ⟨b, e1, e2⟩ := trod_flt he (hV i (by omega)).2
      rw [List.cons.injEq] at e1
      rw [e1.1]
      exact ⟨rfl, e2⟩
    refine ⟨some a, len, cap, (List.range len).map fun i => bitsOf (V i), rfl, ⟨by simp [flts], fun h0 => ?_⟩, hl, hm, fun y hy => ?_⟩
    · have h1 := (hV 0 (by omega)).1
      obtain ⟨b', o', e'⟩ : ∃ b' o', a = ⟨b', o', none⟩ := by
        obtain ⟨ab, ao, sp⟩ := a
        have hs : sp = none := by simpa [Addr.add] using World.cell?_spot h1
        exact ⟨ab, ao, by rw [hs]⟩
      subst e'
      refine ⟨b', o', rfl, fun j v hv => ?_⟩
      unfold flts at hv
      rw [List.map_map, List.getElem?_map] at hv
      by_cases hj : j < len
      · rw [List.getElem?_range hj] at hv
        simp only [Option.map_some, Function.comp, Option.some.injEq] at hv
        rw [← hv, ← (hB j (by omega)).1, ← addr_lit]
        exact (hV j (by omega)).1
      · rw [List.getElem?_eq_none (by simp; omega)] at hv
        cases hv
    · obtain ⟨i, hi, rfl⟩ := List.mem_map.1 hy
      exact (hB i (by have := List.mem_range.1 hi; omega)).2

theorem open_slice_fields {t e : TypeId} {fs : Array Field} {cs : List Value} {x : DataW H × List MemPlace} (ht : P.underlying t = some (.slice e)) (he : P.underlying e = some (.struct fs))
    (hone : oneCellFields P fs = true) (hC : P.cellsOf e = fs.size) (h : DataW.trod enc P w base spare held fuel t cs = some x) :
    (cs = [.slice none 0 0] ∧ x = (.nil, [])) ∨
    ∃ (a : Addr) (len cap m : Nat), cs = [.slice (some a) len cap] ∧ len ≤ cap ∧ cap ≤ maxLen ∧ m = (if spare a.block then cap else len) ∧
      ∀ i, i < m → ∃ n : Nat, ∀ (j : Nat) (f : Field), fs[j]? = some f → ∃ (v : Value) (y : DataW H × List MemPlace), w.cell? (a.add (i * fs.size + j)) = some v ∧ DataW.trod enc P w base spare held n f.type [v] = some y := by
  rcases open_slice ht h with h0 | ⟨a, len, cap, m, n, D, Pl, hcs, hb, hl, hm, hmm, hx, hi⟩
  · exact .inl h0
  · refine .inr ⟨a, len, cap, m, hcs, hl, hm, hmm, fun i him => ?_⟩
    obtain ⟨cs', hc, ht'⟩ := hi i him
    rw [hC] at hc
    obtain ⟨ys, n', hn', hy, hlen, hyl, hf⟩ := DataW.trod_struct he ht'
    obtain ⟨_, hcl, hat⟩ := World.cells?_some hc
    refine ⟨n', fun j f hj => ?_⟩
    obtain ⟨ho, hk⟩ := hone_of hone j f hj
    have hjl : j < fs.size := (Array.getElem?_eq_some_iff.1 hj).1
    have hcell := hat j hjl
    have hv : cs'[j]? = some (cs'[j]'(by omega)) := List.getElem?_eq_getElem (by omega)
    have h1 := hf j f hj
    rw [ho, hk] at h1
    have hone' : (cs'.drop j).take 1 = [cs'[j]'(by omega)] := by
      rw [List.drop_eq_getElem_cons (by omega)]
      rfl
    rw [hone'] at h1
    have hys : ys[j]? = some (ys[j]'(by omega)) := List.getElem?_eq_getElem (by omega)
    refine ⟨_, _, ?_, h1.trans hys⟩
    rw [← Go.Deep.add_add, hcell, hv]

/-- A slice of slices of float numbers that came in. -/
theorem read_rows {t s e : TypeId} {cs : List Value} {x : DataW H × List MemPlace} (ht : P.underlying t = some (.slice s)) (hs1 : P.cellsOf s = 1) (hs : P.underlying s = some (.slice e)) (he : P.underlying e = some (.float .f64)) (hc : P.cellsOf e = 1)
    (h : DataW.trod enc P w base (fun _ => true) held fuel t cs = some x) : ∃ (A : Option Addr) (n c : Nat) (pts : List Pt), cs = [.slice A n c] ∧ Sl w A n 1 (pts.map Pt.v) ∧ n ≤ c ∧ c ≤ 9223372036854775807 ∧ ∀ p ∈ pts, Sl w p.A p.n 1 (flts p.xs) ∧ p.n ≤ 9223372036854775807 := by
  rcases open_slice1 ht hs1 h with ⟨rfl, _⟩ | ⟨a, len, cap, m, n, V, D, Pl, rfl, _, hl, hm, hmm, _, hV⟩
  · exact ⟨none, 0, 0, [], rfl, Sl.nil _ _, Nat.le_refl _, by omega, fun y hy => by cases hy⟩
  · have hmc : m = cap := by rw [hmm]; simp
    obtain ⟨F, hF⟩ := choose_lt (α := Pt) (n := cap) (p := fun i p => V i = p.v ∧ Sl w p.A p.n 1 (flts p.xs) ∧ p.n ≤ 9223372036854775807) (fun i hi => by
      obtain ⟨A, q, c, xs, e1, e2, e3, e4, _⟩ := read_floats hs he hc (hV i (by omega)).2
      rw [List.cons.injEq] at e1
      exact ⟨⟨A, q, c, xs⟩, e1.1, e2, by show q ≤ _; omega⟩)
    refine ⟨some a, len, cap, (List.range len).map F, rfl, ⟨by simp, fun h0 => ?_⟩, hl, hm, fun p hp => ?_⟩
    · have h1 := (hV 0 (by omega)).1
      obtain ⟨b', o', e'⟩ : ∃ b' o', a = ⟨b', o', none⟩ := by
        obtain ⟨ab, ao, sp⟩ := a
        have hs : sp = none := by simpa [Addr.add] using World.cell?_spot h1
        exact ⟨ab, ao, by rw [hs]⟩
      subst e'
      refine ⟨b', o', rfl, fun j v hv => ?_⟩
      rw [List.map_map, List.getElem?_map] at hv
      by_cases hj : j < len
      · rw [List.getElem?_range hj] at hv
        simp only [Option.map_some, Function.comp, Option.some.injEq] at hv
        rw [← hv, ← (hF j (by omega)).1, ← addr_lit]
        exact (hV j (by omega)).1
      · rw [List.getElem?_eq_none (by simp; omega)] at hv
        cases hv
    · obtain ⟨i, hi, rfl⟩ := List.mem_map.1 hp
      exact (hF i (by have := List.mem_range.1 hi; omega)).2
end
end Lox

namespace Lox
open Go Go.RowKit Go.ChangeShapes Go.WideShapes Go.Deep
set_option linter.unusedVariables false

section
variable {H : Type} {enc : TypeId × Value → H} {P : Program} {w : World} {base : Nat} {spare : Nat → Bool} {held : Bool} {fuel : Nat}

theorem trod_i64 {t : TypeId} {cs : List Value} {x : DataW H × List MemPlace} (ht : P.underlying t = some (.int .i64)) (h : DataW.trod enc P w base spare held fuel t cs = some x) : ∃ b, cs = [.int .i64 b] ∧ (Lit.int .i64 b).wf = true := by
  cases fuel with
  | zero => simp [DataW.trod] at h
  | succ n =>
    unfold DataW.trod at h
    rw [ht] at h
    split at h <;> simp_all

def numOf : Value → Int
  | .int _ b => b
  | _ => 0

/-- A slice of whole numbers that came in. -/
theorem read_ints {t e : TypeId} {cs : List Value} {x : DataW H × List MemPlace} (ht : P.underlying t = some (.slice e)) (he : P.underlying e = some (.int .i64)) (hc : P.cellsOf e = 1)
    (h : DataW.trod enc P w base (fun _ => true) held fuel t cs = some x) : ∃ A n c xs, cs = [.slice A n c] ∧ Sl w A n 1 (ints xs) ∧ n ≤ c ∧ c ≤ 9223372036854775807 ∧ (∀ y ∈ xs, (Lit.int .i64 y).wf = true) ∧ (A = none → c = 0) := by
  rcases open_slice1 ht hc h with ⟨rfl, _⟩ | ⟨a, len, cap, m, n, V, D, Pl, rfl, _, hl, hm, hmm, _, hV⟩
  · exact ⟨none, 0, 0, [], rfl, ⟨by simp [ints], fun h => by omega⟩, Nat.le_refl _, by omega, fun y hy => (by cases hy), fun _ => rfl⟩
  · have hmc : m = cap := by rw [hmm]; simp
    have hB : ∀ i, i < cap → V i = .int .i64 (numOf (V i)) ∧ (Lit.int .i64 (numOf (V i))).wf = true := fun i hi => by
      obtain ⟨b, e1, e2⟩ := trod_i64 he (hV i (by omega)).2
      rw [List.cons.injEq] at e1
      rw [e1.1]
      exact ⟨rfl, e2⟩
    refine ⟨some a, len, cap, (List.range len).map fun i => numOf (V i), rfl, ⟨by simp [ints], fun h0 => ?_⟩, hl, hm, fun y hy => ?_, fun e => by cases e⟩
    · have h1 := (hV 0 (by omega)).1
      obtain ⟨b', o', e'⟩ : ∃ b' o', a = ⟨b', o', none⟩ := by
        obtain ⟨ab, ao, sp⟩ := a
        have hs : sp = none := by simpa [Addr.add] using World.cell?_spot h1
        exact ⟨ab, ao, by rw [hs]⟩
      subst e'
      refine ⟨b', o', rfl, fun j v hv => ?_⟩
      unfold ints at hv
      rw [List.map_map, List.getElem?_map] at hv
      by_cases hj : j < len
      · rw [List.getElem?_range hj] at hv
        simp only [Option.map_some, Function.comp, Option.some.injEq] at hv
        rw [← hv, ← (hB j (by omega)).1, ← addr_lit]
        exact (hV j (by omega)).1
      · rw [List.getElem?_eq_none (by simp; omega)] at hv
        cases hv
    · obtain ⟨i, hi, rfl⟩ := List.mem_map.1 hy
      exact (hB i (by have := List.mem_range.1 hi; omega)).2
end

theorem wf_le {y : Int} (h : (Lit.int .i64 y).wf = true) : y ≤ 9223372036854775807 := by
  simp only [Lit.wf, Bool.and_eq_true, decide_eq_true_eq] at h
  have e : IntKind.i64.max = 9223372036854775807 := by decide
  rw [e] at h
  exact h.2
end Lox
namespace Go.Proofs.YtmeooadgdagiiaaGreat
open Go.RowKit Lox Go.ChangeShapes Go.WideShapes Go.Deep

section
variable {H : Type} {enc : TypeId × Value → H} {P : Program} {w : World} {base : Nat} {held : Bool} {fuel : Nat}

/-- A list of points that came in. -/
theorem read_points {t s e : TypeId} {cs : List Value} {x : DataW H × List MemPlace} (ht : P.underlying t = some (.slice s)) (hs1 : P.cellsOf s = 1) (hs : P.underlying s = some (.slice e)) (he : P.underlying e = some (.float .f64)) (hc : P.cellsOf e = 1)
    (h : DataW.trod enc P w base (fun _ => true) held fuel t cs = some x) : ∃ r : RR, cs = [r.v] ∧ r.Ok w := by
  obtain ⟨A, n, c, pts, e1, h1, h2, h3, h4⟩ := read_rows ht hs1 hs he hc h
  have hl : pts.length = n := by have := h1.1; simpa using this
  have hv : (pts.map fun p => (⟨p.A, p.c, p.xs⟩ : TP)).map TP.v = pts.map Lox.Pt.v := by
    rw [List.map_map]
    refine List.map_congr_left fun p hp => ?_
    have h5 := (h4 p hp).1.1
    have h6 : p.xs.length = p.n := by simpa [flts] using h5
    show Value.slice p.A p.xs.length p.c = .slice p.A p.n p.c
    rw [h6]
  refine ⟨⟨A, c, pts.map fun p => ⟨p.A, p.c, p.xs⟩⟩, ?_, ?_, ?_, ?_⟩
  · rw [e1]; simp only [RR.v, List.length_map, hl]
  · rw [List.length_map, hv, hl]; exact h1
  · intro q hq
    obtain ⟨p, hp, rfl⟩ := List.mem_map.1 hq
    have h5 := (h4 p hp).1
    have h6 : p.xs.length = p.n := by have := h5.1; simpa [flts] using this
    exact ⟨by show Sl w p.A p.xs.length 1 _; rw [h6]; exact h5, by show p.xs.length ≤ _; rw [h6]; exact (h4 p hp).2⟩
  · show (List.map _ pts).length ≤ _
    rw [List.length_map]; omega
end
end Go.Proofs.YtmeooadgdagiiaaGreat
