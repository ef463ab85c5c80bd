/- Steps of a proof, one behind another: The walk of FnTkRoot: it answers true, and what came in is as it was. Conditions: none on the numbers. The walk of FnTkNearest: it answers true, and what came in is as it was. Conditions: none on the numbers. Conditions: as each theorem says. -/
import Derived.Test.YtmeooadgdagiiaaMs17
import Derived.Deep.QuietTactic

namespace Go.Proofs.Ytmeooadgdagiiaa
open Go.RowKit Lox
set_option linter.unusedVariables false
attribute [local go_sem] run_store_flt run_store_fn

/-- The law answers true, and nothing that was there has turned. -/
def Yes (w : World) (e : Ending) (w' : World) : Prop := e = .returned (.bool true) ∧ Mod (fun _ => False) w w'

theorem not_false {b : Bool} (h : (!b) = false) : b = true := by simpa using h

theorem root_row {dims n : Nat} {ps qs is : List TP} {ks : List Nat} {mt : MT} {rs : List KR} (hn : 0 < n) (hl : ps.length = n) (hs : qs.map TP.xs = ps.map TP.xs) (hT : mt.T = KB.inss leB dims (KB.build leB dims n qs ks 0).1 is) (hr : rs.map KR.plain = mt.flat 0)
    {p : TP} (hp : ps[(KB.pick n ks).1]? = some p) : ∃ r0, rs[0]? = some r0 ∧ r0.p.xs = p.xs := by
  have hql : qs.length = n := by have := congrArg List.length hs; simpa [hl] using this
  obtain ⟨q, hq⟩ : ∃ q, qs[(KB.pick n ks).1]? = some q := ⟨_, List.getElem?_eq_getElem (by rw [hql]; exact KB.pick_lt n hn ks)⟩
  have hqp : q.xs = p.xs := by
    have h1 : (qs.map TP.xs)[(KB.pick n ks).1]? = some q.xs := by rw [List.getElem?_map, hq]; rfl
    rw [hs, List.getElem?_map, hp] at h1
    injection h1 with h1
    exact h1.symm
  obtain ⟨n', rfl⟩ : ∃ n', n = n' + 1 := ⟨n - 1, by omega⟩
  have hroot := KB.inss_root leB dims q is _ (KB.build_root leB dims n' qs ks (by omega) q (by rw [hql]; exact hq))
  rw [← hT] at hroot
  cases mt with
  | nil => exact hroot.elim
  | node g x d bx l r =>
    have hx : x = q := hroot
    subst hx
    cases rs with
    | nil => simp [MT.flat] at hr
    | cons r0 rs =>
      simp only [List.map_cons, MT.flat, List.cons.injEq] at hr
      refine ⟨r0, rfl, ?_⟩
      have := congrArg PR.xs hr.1
      exact this.trans hqp

theorem ints_nat {pk : List Int} (h : ∀ k ∈ pk, 0 ≤ k) : (pk.map Int.toNat).map Int.ofNat = pk := by
  rw [List.map_map]
  refine (List.map_congr_left fun k hk => ?_).trans (List.map_id _)
  have := h k hk
  show ((k.toNat : Nat) : Int) = k
  omega

/-- What the law's last row reads. -/
structure RootEnd (W : World) (b o t q0 : Nat) (A5 : Option Addr) (N : Nat) : Prop where
  ex : ∃ (g : Nat) (A : Option Addr) (c : Nat) (B : Option Addr) (c' : Nat) (xs : List Nat), A5 = some ⟨g, 0, none⟩ ∧ 0 < N ∧ N ≤ 9223372036854775807 ∧ W.cell? ⟨g, 0, none⟩ = some (.slice A q0 c) ∧ Sl W A q0 1 (flts xs) ∧ W.cell? ⟨b, o + t, none⟩ = some (.slice B q0 c') ∧ Sl W B q0 1 (flts xs) ∧ ∀ x ∈ xs, Num x

theorem root_end {w W : World} {H b o t q0 n : Nat} {A5 : Option Addr} {c5 : Nat} {ps qs is : List TP} {ks : List Nat} {mt : MT} {rs : List KR} (hn : 0 < n) (hl : ps.length = n) (hcell : ∀ j u, (ps.map TP.v)[j]? = some u → w.cell? ⟨b, o + j, none⟩ = some u) (hrd : ∀ p ∈ ps, p.Rd w)
    (hall : ∀ p ∈ ps, (p.xs.length : Int) = (q0 : Int) ∧ ∀ y ∈ p.xs, ∃ n, Wh y n) (hm : Mod (fun _ => False) w W) (hK : KS H W q0 (.slice A5 rs.length c5) rs) (hr : rs.map KR.plain = mt.flat 0) (hT : mt.T = KB.inss leB q0 (KB.build leB q0 n qs ks 0).1 is) (hs : qs.map TP.xs = ps.map TP.xs) (ht : t = (KB.pick n ks).1) :
    RootEnd W b o t q0 A5 rs.length := by
  have htn : t < n := by rw [ht]; exact KB.pick_lt n hn ks
  obtain ⟨p, hp⟩ : ∃ p, ps[t]? = some p := ⟨_, List.getElem?_eq_getElem (by omega)⟩
  have hpm := List.mem_of_getElem? hp
  obtain ⟨r0, hr0, hx⟩ := root_row hn hl hs hT hr (by rw [← ht]; exact hp)
  have hpos : 0 < rs.length := (List.getElem?_eq_some_iff.1 hr0).1
  obtain ⟨g, cap, e5, -, -⟩ := hK.own.form hpos
  injection e5 with e5 e6 e7
  subst e5
  have hc := (hK.cell rfl hr0 (j := 0) (by omega)).1
  have hok := (hK.ok r0 (List.mem_of_getElem? hr0)).1.1
  have hpl : p.xs.length = q0 := by have := (hall p hpm).1; omega
  have hpc := hcell t p.v (by rw [List.getElem?_map, hp]; rfl)
  have hcap : rs.length ≤ 9223372036854775807 := by
    rcases hK.own.2 with ⟨e, _⟩ | ⟨g', cap', cur, e1, hB, hg, hc1, hcm, _⟩
    · cases e
    · cases e1
      unfold maxLen at hcm
      omega
  refine ⟨g, r0.p.A, r0.p.c, p.A, p.c, p.xs, rfl, hpos, hcap, ?_, ?_, ?_, ?_, fun x hx => ?_⟩
  · rw [Nat.zero_mul] at hc
    rw [hc]
    show some (Value.slice r0.p.A r0.p.xs.length r0.p.c) = _
    rw [hok.1]
  · have := hok.2
    rw [hok.1, hx] at this
    exact this
  · refine (hm.cell (lt_of_cell hpc) (fun h => h)).trans ?_
    rw [hpc]
    show some (Value.slice p.A p.xs.length p.c) = _
    rw [hpl]
  · have := ((hrd p hpm).mod hm).1
    rw [hpl] at this
    exact this
  · obtain ⟨z, hz⟩ := (hall p hpm).2 x hx
    have hf := hz.1.1
    obtain ⟨s, m, i, hd⟩ := hf
    unfold Num
    rw [hd]
    rfl

theorem same_q (A B : Option Addr) (n c c' : Nat) (xs : List Nat) (w : World) (k : Nat) (ha : Sl w A n 1 (flts xs)) (hb : Sl w B n 1 (flts xs)) (hn : n ≤ 9223372036854775807) (hx : ∀ x ∈ xs, Num x) :
    Calls Try.prog 15 #[.slice A n c, .slice B n c'] (w.drewN k) fun e w' => e = .returned (.bool true) ∧ ∃ m, w' = w.drewN m :=
  (same_yes A B n c c' xs (w.drewN k) (ha.keep fun _ _ => rfl) (hb.keep fun _ _ => rfl) hn hx).mono fun _ _ ⟨he, hw⟩ => ⟨he, k, hw.symm⟩

set_option maxRecDepth 100000 in
set_option maxHeartbeats 8000000 in
theorem fnTkRoot_at (x y : RR) (P : Option Addr) (cp nk : Nat) (pk : List Int) (w : World) (hx : x.Ok w) (hy : y.Ok w) (hP : Sl w P nk 1 (ints pk)) (hPA : P = none → cp = 0) (hnk : nk ≤ 9223372036854775807) (hpk : ∀ k ∈ pk, k ≤ 9223372036854775807) :
    Calls Try.prog 4 #[x.v, .slice P nk cp, y.v] w (Yes w) := by
  have hpl : pk.length = nk := by have := hP.1; simpa [ints] using this
  obtain ⟨O, c, ps⟩ := x
  obtain ⟨I, ci, ins⟩ := y
  obtain ⟨n, hn⟩ : ∃ n, ps.length = n := ⟨_, rfl⟩
  obtain ⟨m, hm⟩ : ∃ m, ins.length = m := ⟨_, rfl⟩
  have ex : (RR.mk O c ps).v = .slice O n c := by rw [← hn]; rfl
  have ey : (RR.mk I ci ins).v = .slice I m ci := by rw [← hm]; rfl
  have hnl : n ≤ 9223372036854775807 := by rw [← hn]; exact hx.2.2
  have hml : m ≤ 9223372036854775807 := by rw [← hm]; exact hy.2.2
  have FX : Hid (∀ W : World, Mod (fun _ => False) w W → Calls Try.prog 8 #[.slice O n c] W (FitsTold ⟨O, c, ps⟩ W)) := fun W hm => by rw [← ex]; exact fits4_any _ W (hx.mod hm)
  have FY : Hid (∀ W : World, Mod (fun _ => False) w W → Calls Try.prog 8 #[.slice I m ci] W (FitsTold ⟨I, ci, ins⟩ W)) := fun W h => by rw [← ey]; exact fits4_any _ W (hy.mod h)
  rw [ex, ey]
  have HX := Lib.hid (And.intro hx (And.intro hy (And.intro hP (And.intro hPA (And.intro hpk (And.intro hpl (And.intro hn hm)))))))
  clear ex ey hx hy hP hPA hpk hpl hn hm
  by_cases hbig : 2147483647 < nk
  · go_enter Try.func4, Try.ntmps4
    have tok1 : True := trivial
    go_wp2_with (first | (go_at_call 8; have _t := tok1; clear _t tok1; refine (FX.out _ (Mod.refl _ _)).mono ?_; rintro _ w1 ⟨b1, rfl, rfl, hb1⟩; have HB1 := Lib.hid hb1; clear hb1))
    all_goals
      go_ret
      exact ⟨rfl, Mod.refl _ _⟩
  · by_cases h0 : n = 0
    · subst h0
      go_enter Try.func4, Try.ntmps4
      have tok1 : True := trivial
      go_wp2_with (first | (go_at_call 8; have _t := tok1; clear _t tok1; refine (FX.out _ (Mod.refl _ _)).mono ?_; rintro _ w1 ⟨b1, rfl, rfl, hb1⟩; have HB1 := Lib.hid hb1; clear hb1) | (go_at_call 8; refine (FY.out _ (Mod.refl _ _)).mono ?_; rintro _ w2 ⟨b2, rfl, rfl, hb2⟩; have HB2 := Lib.hid hb2; clear hb2))
      all_goals
        go_ret
        exact ⟨rfl, Mod.refl _ _⟩
    · have hx0 : 0 < ps.length := by rw [HX.out.2.2.2.2.2.2.1]; omega
      obtain ⟨p0, hp0⟩ : ∃ p0, ps[0]? = some p0 := ⟨_, List.getElem?_eq_getElem hx0⟩
      have hslx : Sl w O n 1 (ps.map TP.v) := by rw [← HX.out.2.2.2.2.2.2.1]; exact HX.out.1.1
      obtain ⟨b, o, eO, hcell⟩ := hslx.2 (by omega)
      subst eO
      obtain ⟨q0, hq0⟩ : ∃ q0, p0.xs.length = q0 := ⟨_, rfl⟩
      have c0 : w.cell? ⟨b, o, none⟩ = some (.slice p0.A q0 p0.c) := by
        have := hcell 0 p0.v (by rw [List.getElem?_map, hp0]; rfl)
        rw [Nat.add_zero] at this
        rw [this, ← hq0]; rfl
      have hq0l : q0 ≤ 9223372036854775807 := by rw [← hq0]; exact (HX.out.1.2.1 p0 (List.mem_of_getElem? hp0)).2
      have e0 : ((n : Int) == 0) = false := by
        have : (n : Int) ≠ 0 := by omega
        simpa using this
      have hbl := lt_of_cell c0
      have SM : Hid (∀ W : World, Mod (fun _ => False) w W → n ≤ 2147483647 → m ≤ 2147483647 → Calls Try.prog 9 #[.int .i64 q0, .float .f64 4697254411347427328, .slice P nk cp, .slice (some ⟨W.heap.size, 0, none⟩) 2 2] (W.alloc (.cells #[.slice (some ⟨b, o, none⟩) n c, .slice I m ci] 22)) (SomeTold q0 [⟨some ⟨b, o, none⟩, c, ps⟩, ⟨I, ci, ins⟩] pk (W.alloc (.cells #[.slice (some ⟨b, o, none⟩) n c, .slice I m ci] 22)))) := by
        intro W hW h1 h2
        have hm2 := hW.alloc (.cells #[.slice (some ⟨b, o, none⟩) n c, .slice I m ci] 22)
        obtain ⟨g1, g2, g3, g4, g5, g6, g7, g8⟩ := HX.out
        refine some_at _ P 2 2 nk cp q0 [⟨some ⟨b, o, none⟩, c, ps⟩, ⟨I, ci, ins⟩] pk _ ?_ (by omega) ?_ (g3.mod hm2) (by omega)
        · have hb := Blk.new' W #[.slice (some ⟨b, o, none⟩) n c, .slice I m ci] 22
          refine ⟨rfl, fun _ => ⟨W.heap.size, 0, rfl, fun j u hu => ?_⟩⟩
          rw [Nat.zero_add]
          exact hb.at (by rw [← hu]; simp only [List.map_cons, List.map_nil, RR.v, g7, g8])
        · intro z hz
          rcases List.mem_cons.1 hz with rfl | hz
          · exact ⟨g1.mod hm2, by show ps.length ≤ _; omega⟩
          · rw [List.mem_singleton.1 hz]
            exact ⟨g2.mod hm2, by show ins.length ≤ _; omega⟩
      have KBF : Hid (∀ W : World, Mod (fun _ => False) w W → ((∀ x ∈ [(⟨some ⟨b, o, none⟩, c, ps⟩ : RR), ⟨I, ci, ins⟩], (∀ p ∈ x.ps, (p.xs.length : Int) = (q0 : Int) ∧ ∀ y ∈ p.xs, ∃ n, Wh y n) ∧ (0 : Int) < (q0 : Int)) ∧ (q0 : Int) ≤ 4 ∧ many [⟨some ⟨b, o, none⟩, c, ps⟩, ⟨I, ci, ins⟩] ≤ 120 ∧ pk.length ≤ 80 ∧ ∀ k ∈ pk, 0 ≤ k) →
          Calls Try.prog 10 #[.slice (some ⟨b, o, none⟩) n c, .slice P nk cp, .bool false, .slice I m ci] W (KbTold q0 n m ps ins (pk.map Int.toNat) W)) := by
        rintro W hW ⟨h1, h2, h3, h4, h5⟩
        obtain ⟨g1, g2, g3, g4, g5, g6, g7, g8⟩ := HX.out
        obtain ⟨a1, a2⟩ := h1 _ (List.mem_cons_self ..)
        obtain ⟨a3, -⟩ := h1 _ (List.mem_cons_of_mem _ (List.mem_cons_self ..))
        have hnm : n + m ≤ 120 := by simpa [many, g7, g8] using h3
        refine kbuild_at _ P I n c nk cp m ci q0 ps ins _ W ⟨by rw [← g7]; exact (g1.mod hW).1, fun p hp => ⟨(g1.mod hW).2.1 p hp, by have := (a1 p hp).1; omega⟩⟩ ⟨by rw [← g8]; exact (g2.mod hW).1, fun p hp => ⟨(g2.mod hW).2.1 p hp, by have := (a3 p hp).1; omega⟩⟩ (by rw [List.length_map, g6]) (by rw [ints_nat h5]; exact g3.mod hW) g4 ?_ (fun p hp => TP.gr_of (a1 p hp).2) (fun p hp => TP.gr_of (a3 p hp).2) (by omega) (by omega)
        intro k hk
        obtain ⟨k', hk', rfl⟩ := List.mem_map.1 hk
        have := g5 k' hk'
        omega
      have HPC := Lib.hid hcell
      have HP0 := Lib.hid (And.intro hp0 hq0)
      clear hx0 hp0 hslx hcell hq0
      by_cases hk0 : nk = 0
      · subst hk0
        obtain ⟨t, ht⟩ : ∃ t, t = n / 2 := ⟨_, rfl⟩
        have hat : (n : Int) / 2 = (t : Int) := by omega
        have htn : (t : Int) < n := by omega
        have ht0 : (0 : Int) ≤ t := by omega
        have HTT := Lib.hid ht
        clear ht
        go_enter Try.func4, Try.ntmps4
        have tok1 : True := trivial
        go_wp2_with (first
          | (go_at_call 8; have _t := tok1; clear _t tok1; refine (FX.out _ (Mod.refl _ _)).mono ?_; rintro _ w1 ⟨b1, rfl, rfl, hb1⟩; have HB1 := Lib.hid hb1; clear hb1)
          | (go_at_call 8; refine (FY.out _ (Mod.refl _ _)).mono ?_; rintro _ w2 ⟨b2, rfl, rfl, hb2⟩; have HB2 := Lib.hid hb2; clear hb2)
          | (go_at_call 9; refine (SM.out w (Mod.refl _ _) (by have h1 : ps.length ≤ 2147483647 := (HB1.out (by first | assumption | exact not_false (by assumption))).1; have h2 := HX.out.2.2.2.2.2.2.1; omega) (by have h1 : ins.length ≤ 2147483647 := (HB2.out (by first | assumption | exact not_false (by assumption))).1; have h2 := HX.out.2.2.2.2.2.2.2; omega)).mono ?_; rintro _ w3 ⟨rfl, b3, rfl, hb3⟩; have HB3 := Lib.hid hb3; clear hb3)
          | (go_at_call 10; refine (KBF.out _ ((Mod.refl _ _).alloc _) (HB3.out (by first | assumption | exact not_false (by assumption)))).mono ?_; rintro _ w4 ⟨v, rs, mt, qs, is, rfl, k1, k2, k3, k4, k5, k6, k7, ⟨A5, c5, rfl⟩⟩; have HK := Lib.hid (And.intro k1 (And.intro k2 (And.intro k3 (And.intro k4 (And.intro k5 (And.intro k6 k7)))))); clear k1 k2 k3 k4 k5 k6 k7))
        all_goals first
          | (go_ret; exact ⟨rfl, by first | exact Mod.refl _ _ | exact (Mod.refl _ _).alloc _⟩)
          | skip
        have hb3 := HB3.out (by first | assumption | exact not_false (by assumption))
        have hE : RootEnd w4 b o t q0 A5 rs.length := root_end (by omega) HX.out.2.2.2.2.2.2.1 HPC.out HX.out.1.2.1 (hb3.1 _ (List.mem_cons_self ..)).1 (((Mod.refl _ _).alloc _).trans HK.out.2.2.2.2.2.2) HK.out.1 HK.out.2.1 HK.out.2.2.1 HK.out.2.2.2.2.1 (by rw [HTT.out]; have h6 := HX.out.2.2.2.2.2.1; rw [List.length_eq_zero_iff.1 h6]; rfl)
        obtain ⟨g, A, cA, B, cB, xs, rfl, hN, hN2, y1, y2, y3, y4, y5⟩ := hE.ex
        obtain ⟨N, hNe⟩ : ∃ N, N = rs.length := ⟨_, rfl⟩
        rw [← hNe] at hN hN2
        have HNe := Lib.hid hNe
        have HY := Lib.hid (And.intro y2 (And.intro y4 y5))
        have hmw : Hid (Mod (fun _ => False) w w4) := ((Mod.refl _ _).alloc _).trans HK.out.2.2.2.2.2.2
        have dN : decide ((0 : Int) < (N : Int)) = true := decide_eq_true (by omega)
        have i1 : (0 : Int) < (N : Int) := by omega
        rw [← hNe]
        clear hb3 hE hNe y2 y4 y5
        go_quiet ((go_at_call 15; exact same_q A B q0 cA cB xs w4 _ HY.out.1 HY.out.2.1 hq0l HY.out.2.2))
        go_wp2
        go_ret
        exact ⟨rfl, hmw.out.drewN _⟩
      · obtain ⟨x0, hx0⟩ : ∃ x0, pk[0]? = some x0 := ⟨_, List.getElem?_eq_getElem (by rw [HX.out.2.2.2.2.2.1]; omega)⟩
        obtain ⟨bp, op, eP, hcp⟩ := HX.out.2.2.1.2 (by omega)
        have cp0 : w.cell? ⟨bp, op, none⟩ = some (.int .i64 x0) := by
          have := hcp 0 _ (ints_at hx0)
          rw [Nat.add_zero] at this
          exact this
        have hpl0 := lt_of_cell cp0
        have hx0m := List.mem_of_getElem? hx0
        have hx0b := HX.out.2.2.2.2.1 x0 hx0m
        subst eP
        have n0 : (0 : Int) < nk := by omega
        have hdk : decide ((2147483647 : Int) < (nk : Int)) = false := decide_eq_false (by omega)
        by_cases hneg : x0 < 0
        · have HNG := Lib.hid (And.intro hx0m hneg)
          clear hcp hx0m hneg hx0
          go_enter Try.func4, Try.ntmps4
          have tok1 : True := trivial
          go_wp2_with (first
            | (go_at_call 8; have _t := tok1; clear _t tok1; refine (FX.out _ (Mod.refl _ _)).mono ?_; rintro _ w1 ⟨b1, rfl, rfl, hb1⟩; have HB1 := Lib.hid hb1; clear hb1)
            | (go_at_call 8; refine (FY.out _ (Mod.refl _ _)).mono ?_; rintro _ w2 ⟨b2, rfl, rfl, hb2⟩; have HB2 := Lib.hid hb2; clear hb2)
            | (go_at_call 9; refine (SM.out w (Mod.refl _ _) (by have h1 : ps.length ≤ 2147483647 := (HB1.out (by first | assumption | exact not_false (by assumption))).1; have h2 := HX.out.2.2.2.2.2.2.1; omega) (by have h1 : ins.length ≤ 2147483647 := (HB2.out (by first | assumption | exact not_false (by assumption))).1; have h2 := HX.out.2.2.2.2.2.2.2; omega)).mono ?_; rintro _ w3 ⟨rfl, b3, rfl, hb3⟩; have HB3 := Lib.hid hb3; clear hb3)
            | (go_at_call 10; exact absurd ((HB3.out (by first | assumption | exact not_false (by assumption))).2.2.2.2 x0 HNG.out.1) (by have := HNG.out.2; omega)))
          all_goals first
            | (go_ret; exact ⟨rfl, by first | exact Mod.refl _ _ | exact (Mod.refl _ _).alloc _⟩)
        · obtain ⟨k0, rfl⟩ : ∃ k0 : Nat, x0 = (k0 : Int) := ⟨x0.toNat, by omega⟩
          obtain ⟨t, ht⟩ : ∃ t, t = k0 % n := ⟨_, rfl⟩
          have hat : (k0 : Int) % (n : Int) = (t : Int) := by rw [ht]; simp
          have hlt := Nat.mod_lt k0 (show 0 < n by omega)
          have htn : (t : Int) < n := by omega
          have ht0 : (0 : Int) ≤ t := by omega
          have hn0 : (0 : Int) < n := by omega
          have HTT : Hid (t = (KB.pick n (pk.map Int.toNat)).1) := by
            show _ = _
            cases hpk' : pk with
            | nil => rw [hpk'] at hx0; simp at hx0
            | cons a l =>
              rw [hpk'] at hx0
              simp only [List.getElem?_cons_zero, Option.some.injEq] at hx0
              subst hx0
              simp only [List.map_cons, Int.toNat_natCast, KB.pick]
              exact ht
          clear hcp hx0m hneg hx0 ht hlt
          go_enter Try.func4, Try.ntmps4
          have tok1 : True := trivial
          go_wp2_with (first
            | (go_at_call 8; have _t := tok1; clear _t tok1; refine (FX.out _ (Mod.refl _ _)).mono ?_; rintro _ w1 ⟨b1, rfl, rfl, hb1⟩; have HB1 := Lib.hid hb1; clear hb1)
            | (go_at_call 8; refine (FY.out _ (Mod.refl _ _)).mono ?_; rintro _ w2 ⟨b2, rfl, rfl, hb2⟩; have HB2 := Lib.hid hb2; clear hb2)
            | (go_at_call 9; refine (SM.out w (Mod.refl _ _) (by have h1 : ps.length ≤ 2147483647 := (HB1.out (by first | assumption | exact not_false (by assumption))).1; have h2 := HX.out.2.2.2.2.2.2.1; omega) (by have h1 : ins.length ≤ 2147483647 := (HB2.out (by first | assumption | exact not_false (by assumption))).1; have h2 := HX.out.2.2.2.2.2.2.2; omega)).mono ?_; rintro _ w3 ⟨rfl, b3, rfl, hb3⟩; have HB3 := Lib.hid hb3; clear hb3)
            | (go_at_call 10; refine (KBF.out _ ((Mod.refl _ _).alloc _) (HB3.out (by first | assumption | exact not_false (by assumption)))).mono ?_; rintro _ w4 ⟨v, rs, mt, qs, is, rfl, k1, k2, k3, k4, k5, k6, k7, ⟨A5, c5, rfl⟩⟩; have HK := Lib.hid (And.intro k1 (And.intro k2 (And.intro k3 (And.intro k4 (And.intro k5 (And.intro k6 k7)))))); clear k1 k2 k3 k4 k5 k6 k7))
          all_goals first
            | (go_ret; exact ⟨rfl, by first | exact Mod.refl _ _ | exact (Mod.refl _ _).alloc _⟩)
            | skip
          have hb3 := HB3.out (by first | assumption | exact not_false (by assumption))
          have hE : RootEnd w4 b o t q0 A5 rs.length := root_end (by omega) HX.out.2.2.2.2.2.2.1 HPC.out HX.out.1.2.1 (hb3.1 _ (List.mem_cons_self ..)).1 (((Mod.refl _ _).alloc _).trans HK.out.2.2.2.2.2.2) HK.out.1 HK.out.2.1 HK.out.2.2.1 HK.out.2.2.2.2.1 HTT.out
          obtain ⟨g, A, cA, B, cB, xs, rfl, hN, hN2, y1, y2, y3, y4, y5⟩ := hE.ex
          obtain ⟨N, hNe⟩ : ∃ N, N = rs.length := ⟨_, rfl⟩
          rw [← hNe] at hN hN2
          have HNe := Lib.hid hNe
          have HY := Lib.hid (And.intro y2 (And.intro y4 y5))
          have hmw : Hid (Mod (fun _ => False) w w4) := ((Mod.refl _ _).alloc _).trans HK.out.2.2.2.2.2.2
          have dN : decide ((0 : Int) < (N : Int)) = true := decide_eq_true (by omega)
          have i1 : (0 : Int) < (N : Int) := by omega
          rw [← hNe]
          clear hb3 hE hNe y2 y4 y5
          go_quiet ((go_at_call 15; exact same_q A B q0 cA cB xs w4 _ HY.out.1 HY.out.2.1 hq0l HY.out.2.2))
          go_wp2
          go_ret
          exact ⟨rfl, hmw.out.drewN _⟩
end Go.Proofs.Ytmeooadgdagiiaa

namespace Go.Proofs.Ytmeooadgdagiiaa
open Go.RowKit Lox
set_option linter.unusedVariables false
attribute [local go_sem] run_store_flt run_store_fn

theorem flat_bare : ∀ (mt : MT) (i : Nat), mt.bare → ∀ x ∈ mt.flat i, x.mn = [] := by
  intro mt
  induction mt with
  | nil => intro i _ x hx; cases hx
  | node g p d bx l r ihl ihr =>
    intro i hb x hx
    obtain ⟨rfl, h1, h2⟩ := hb
    simp only [MT.flat] at hx
    rcases List.mem_cons.1 hx with rfl | hx
    · rfl
    · rcases List.mem_append.1 hx with hx | hx
      · exact ihl _ h1 x hx
      · exact ihr _ h2 x hx

/-- The tree that KBuild tells, as the searches want it. -/
structure Grown (dims : Nat) (all : List TP) (mt : MT) (rs : List KR) : Prop where
  seg : Seg rs mt 0
  box : ∀ x ∈ rs, x.mn.xs = [] ∨ (x.mn.xs.length = dims ∧ x.mx.xs.length = dims)
  some : mt ≠ .nil
  pts : (mt.pts.map TP.xs).Perm (all.map TP.xs)
  good : ∀ p ∈ mt.pts, p.xs.length = dims ∧ p.Gr
  ord : mt.T.Ord leB
  each : mt.T.Each (fun _ d => d < dims)

theorem grown_of {dims n m : Nat} {ps ins qs is : List TP} {ks : List Nat} {mt : MT} {rs : List KR} (hd : 0 < dims) (hn : ps.length = n) (hm : ins.length = m) (hN : 0 < n + m) (hall : ∀ p ∈ ps ++ ins, p.xs.length = dims ∧ p.Gr) (hr : rs.map KR.plain = mt.flat 0) (hT : mt.T = KB.inss leB dims (KB.build leB dims n qs ks 0).1 is) (hb : mt.bare) (hqs : qs.map TP.xs = ps.map TP.xs) (his : is.map TP.xs = ins.map TP.xs) : Grown dims (ps ++ ins) mt rs := by
  have hql : qs.length = n := by have := congrArg List.length hqs; simpa [hn] using this
  have hil : is.length = m := by have := congrArg List.length his; simpa [hm] using this
  obtain ⟨a1, a2, a3⟩ := KB.build_all leB dims hd n qs ks 0 (by omega) hd
  have hp : mt.pts.Perm (qs ++ is) := by
    rw [MT.pts_all, hT]
    exact (KB.inss_perm leB dims is _).trans (a1.append_right is)
  have hx : (mt.pts.map TP.xs).Perm ((ps ++ ins).map TP.xs) := by
    have h := hp.map TP.xs
    rw [List.map_append, hqs, his, ← List.map_append] at h
    exact h
  refine ⟨seg_root hr, fun x hx => .inl ?_, ?_, hx, fun p hp => ?_, by rw [hT]; exact KB.inss_ord leB dims is _ a2, by rw [hT]; exact KB.inss_each leB dims hd is _ a3⟩
  · have h1 : x.plain ∈ mt.flat 0 := by rw [← hr]; exact List.mem_map_of_mem hx
    exact flat_bare mt 0 hb _ h1
  · rintro rfl
    have := hx.length_eq
    simp [MT.pts, hn, hm] at this
    omega
  · have h1 : p.xs ∈ (ps ++ ins).map TP.xs := hx.mem_iff.1 (List.mem_map_of_mem hp)
    obtain ⟨p0, h2, h3⟩ := List.mem_map.1 h1
    obtain ⟨h4, h5⟩ := hall p0 h2
    exact ⟨by rw [← h3]; exact h4, gr_xs h5 h3.symm⟩

/-- The first of the squares is that of what was found. -/
theorem first_want {dims N : Nat} {all : List TP} {qx xs : List Nat} {pts : List (List Nat)} {ws : List Nat} (hN : 0 < N) (hl : ws.length = N) (hp : pts.Perm (all.map TP.xs)) (hx : xs ∈ pts) (hmin : ∀ y ∈ pts, sqx qx xs dims ≤ sqx qx y dims) (hup : Up ws) (hgn : ∀ y ∈ ws, Gn y) (hpm : (ws.map zv).Perm (all.map fun p => sqx p.xs qx dims)) :
    ∃ y0, ws[0]? = some y0 ∧ Gd 0 y0 (sqx xs qx dims) := by
  cases ws with
  | nil => simp at hl; omega
  | cons y0 ws =>
    refine ⟨y0, rfl, ?_⟩
    have hg := zv_gd (hgn y0 (by simp))
    have h1 : zv y0 ∈ (all.map fun p => sqx p.xs qx dims) := hpm.mem_iff.1 (by simp)
    obtain ⟨p1, h2, h3⟩ := List.mem_map.1 h1
    have h4 := hmin p1.xs (hp.mem_iff.2 (List.mem_map_of_mem h2))
    obtain ⟨p2, h5, h6⟩ := List.mem_map.1 (hp.mem_iff.1 hx)
    have h7 : sqx xs qx dims ∈ ((y0 :: ws).map zv) := hpm.mem_iff.2 (List.mem_map.2 ⟨p2, h5, by rw [h6]⟩)
    obtain ⟨y, hy, h8⟩ := List.mem_map.1 h7
    have h9 : zv y0 ≤ zv y := by
      rcases List.mem_cons.1 hy with rfl | hy
      · exact Int.le_refl _
      · exact (List.pairwise_cons.1 hup).1 y hy
    rw [sqx_comm qx xs, sqx_comm qx p1.xs, h3] at h4
    have e : zv y0 = sqx xs qx dims := by omega
    rw [← e]
    exact hg

theorem one_count {all : List TP} {pts : List (List Nat)} {xs : List Nat} {A : Option Addr} {c : Nat} (hp : pts.Perm (all.map TP.xs)) (hx : xs ∈ pts) : ∀ κ, (([(⟨A, c, xs⟩ : TP)]).map TP.key).count κ ≤ (all.map TP.key).count κ := by
  intro κ
  obtain ⟨p2, h5, h6⟩ := List.mem_map.1 (hp.mem_iff.1 hx)
  have hk : TP.key ⟨A, c, xs⟩ ∈ all.map TP.key := List.mem_map.2 ⟨p2, h5, by unfold TP.key; rw [h6]⟩
  simp only [List.map_cons, List.map_nil, List.count_singleton]
  split
  · rename_i e
    rw [← LawfulBEq.eq_of_beq e]
    exact List.count_pos_iff.2 hk
  · exact Nat.zero_le _

/-- What the law's look at the points tells. -/
def NrGood (ps ins : List TP) (qx : List Nat) (nq n m : Nat) (pk : List Int) : Prop :=
  (∀ p ∈ ps ++ ins, p.xs.length = nq ∧ p.Gr) ∧ (∀ x ∈ qx, ∃ n, Wh x n) ∧ (0 < nq ∧ nq ≤ 4) ∧ n + m ≤ 120 ∧ pk.length ≤ 80 ∧ ∀ k ∈ pk, 0 ≤ k

theorem nr_some {w : World} {O I P Q : Option Addr} {c ci cp cq n m nk nq : Nat} {ps ins : List TP} {pk : List Int} {qx : List Nat} (W : World) (hW : Mod (fun _ => False) w W) (hx : RR.Ok w ⟨O, c, ps⟩) (hy : RR.Ok w ⟨I, ci, ins⟩) (hP : Sl w P nk 1 (ints pk)) (hn : ps.length = n) (hm : ins.length = m) (hQ : Sl w Q nq 1 (flts qx)) (hql : qx.length = nq) (hnk : nk ≤ 2147483647) (h1 : n ≤ 2147483647) (h2 : m ≤ 2147483647) (hq : nq ≤ 9223372036854775807) :
    Calls Try.prog 9 #[.int .i64 nq, .float .f64 4697254411347427328, .slice P nk cp, .slice (some ⟨W.heap.size + 1, 0, none⟩) 3 3] ((W.alloc (.cells #[.slice Q nq cq] 26)).alloc (.cells #[.slice O n c, .slice I m ci, .slice (some ⟨W.heap.size, 0, none⟩) 1 1] 22)) fun e w' => ((W.alloc (.cells #[.slice Q nq cq] 26)).alloc (.cells #[.slice O n c, .slice I m ci, .slice (some ⟨W.heap.size, 0, none⟩) 1 1] 22)) = w' ∧ ∃ b, e = .returned (.bool b) ∧ (b = true → NrGood ps ins qx nq n m pk) := by
  subst hn hm hql
  have hm2 := (hW.alloc (.cells #[.slice Q qx.length cq] 26)).alloc (.cells #[.slice O ps.length c, .slice I ins.length ci, .slice (some ⟨W.heap.size, 0, none⟩) 1 1] 22)
  have hb1 : Blk ((W.alloc (.cells #[.slice Q qx.length cq] 26)).alloc (.cells #[.slice O ps.length c, .slice I ins.length ci, .slice (some ⟨W.heap.size, 0, none⟩) 1 1] 22)) W.heap.size 26 [.slice Q qx.length cq] := (Blk.new' W #[.slice Q qx.length cq] 26).alloc _
  have hb2 := Blk.new' (W.alloc (.cells #[.slice Q qx.length cq] 26)) #[.slice O ps.length c, .slice I ins.length ci, .slice (some ⟨W.heap.size, 0, none⟩) 1 1] 22
  rw [World.size_alloc] at hb2
  refine (some_at _ P 3 3 nk cp qx.length [⟨O, c, ps⟩, ⟨I, ci, ins⟩, ⟨some ⟨W.heap.size, 0, none⟩, 1, [⟨Q, cq, qx⟩]⟩] pk _ ⟨rfl, fun _ => ⟨W.heap.size + 1, 0, rfl, fun j u hu => ?_⟩⟩ (by omega) ?_ (hP.mod hm2) hnk).mono ?_
  · rw [Nat.zero_add]
    exact hb2.at (by rw [← hu]; rfl)
  · intro z hz
    rcases List.mem_cons.1 hz with rfl | hz
    · exact ⟨hx.mod hm2, h1⟩
    · rcases List.mem_cons.1 hz with rfl | hz
      · exact ⟨hy.mod hm2, h2⟩
      · rw [List.mem_singleton.1 hz]
        refine ⟨⟨⟨rfl, fun _ => ⟨W.heap.size, 0, rfl, fun j u hu => ?_⟩⟩, fun p hp => ?_, by show 1 ≤ _; omega⟩, by show 1 ≤ _; omega⟩
        · rw [Nat.zero_add]
          exact hb1.at (by rw [← hu]; rfl)
        · rw [List.mem_singleton.1 hp]
          exact ⟨hQ.mod hm2, hq⟩
  · rintro e w' ⟨h3, b, h4, h5⟩
    refine ⟨h3, b, h4, fun hb => ?_⟩
    obtain ⟨k1, k2, k3, k4, k5⟩ := h5 hb
    obtain ⟨a1, a2⟩ := k1 _ (List.mem_cons_self ..)
    obtain ⟨a3, -⟩ := k1 _ (List.mem_cons_of_mem _ (List.mem_cons_self ..))
    obtain ⟨a4, -⟩ := k1 _ (List.mem_cons_of_mem _ (List.mem_cons_of_mem _ (List.mem_cons_self ..)))
    refine ⟨fun p hp => ?_, fun x hx => (a4 _ (List.mem_cons_self ..)).2 x hx, by omega, by simp [many] at k3; omega, k4, k5⟩
    rcases List.mem_append.1 hp with hp | hp
    · exact ⟨by have := (a1 p hp).1; omega, TP.gr_of (a1 p hp).2⟩
    · exact ⟨by have := (a3 p hp).1; omega, TP.gr_of (a3 p hp).2⟩

theorem nr_rows {w w3 W : World} {O I A3 : Option Addr} {c ci n m N nq : Nat} {ps ins : List TP} {qx : List Nat} {pk : List Int} (h3 : Sl w3 A3 N 1 ((ps ++ ins).map TP.v)) (hx : RR.Ok w ⟨O, c, ps⟩) (hy : RR.Ok w ⟨I, ci, ins⟩) (hg : NrGood ps ins qx nq n m pk) (h03 : Mod (fun _ => False) w w3) (h3W : Mod (fun _ => False) w3 W) : PRows W A3 N (ps ++ ins) nq := by
  refine ⟨h3.mod h3W, fun p hp => ⟨?_, (hg.1 p hp).1⟩⟩
  rcases List.mem_append.1 hp with hp | hp
  · exact (hx.2.1 p hp).mod (h03.trans h3W)
  · exact (hy.2.1 p hp).mod (h03.trans h3W)

theorem nr_squares {w w3 W7 : World} {O I A3 Q : Option Addr} {c ci cq c3 n m N nq : Nat} {ps ins : List TP} {qx xs : List Nat} {pk : List Int} {pts : List (List Nat)} (h3 : Sl w3 A3 N 1 ((ps ++ ins).map TP.v)) (hN0 : 0 < N) (hn : ps.length = n) (hm : ins.length = m) (hN : N = n + m) (hx : RR.Ok w ⟨O, c, ps⟩) (hy : RR.Ok w ⟨I, ci, ins⟩) (hQ : Sl w Q nq 1 (flts qx)) (hql : qx.length = nq) (hg : NrGood ps ins qx nq n m pk) (h03 : Mod (fun _ => False) w w3) (h37 : Mod (fun _ => False) w3 W7) (hp : pts.Perm ((ps ++ ins).map TP.xs)) (hxs : xs ∈ pts) (hmin : ∀ y ∈ pts, sqx qx xs nq ≤ sqx qx y nq) :
    Hid (∀ W : World, Mod (fun _ => False) W7 W → Calls Try.prog 24 #[.slice A3 N c3, .slice Q nq cq] W fun e w' => ∃ (vb vo cV y0 : Nat), e = .returned (.slice (some ⟨vb, vo, none⟩) N cV) ∧ w'.cell? ⟨vb, vo, none⟩ = some (.float .f64 y0) ∧ (1 : Int) ≤ cV ∧ cV ≤ 9223372036854775807 ∧ Gd 0 y0 (sqx xs qx nq) ∧ Mod (fun _ => False) W w') := by
  intro W hW
  have hb := hg.2.2.2.1
  refine (squares_at A3 N c3 nq (ps ++ ins) ⟨Q, cq, qx⟩ W (nr_rows h3 hx hy hg h03 (h37.trans hW)) (fun p hp => (hg.1 p hp).2) ⟨hql, by show Sl W Q qx.length 1 _; rw [hql]; exact hQ.mod ((h03.trans h37).trans hW)⟩ (TP.gr_of hg.2.1) (by omega) hg.2.2.1.2).mono ?_
  rintro e w' ⟨V, cV, ws, rfl, s1, s2, s3, s4, s5, s6, s7⟩
  obtain ⟨vb, vo, rfl, hc⟩ := s1.2 hN0
  have hwl : ws.length = N := by have := s1.1; simpa [flts] using this
  obtain ⟨y0, hy0, hg0⟩ := first_want hN0 hwl hp hxs hmin s4 s5 s6
  exact ⟨vb, vo, cV, y0, rfl, hc 0 _ (flts_get hy0), by omega, s3, hg0, s7⟩

theorem nr_found {w w3 w6 W7 : World} {O I A3 Q A7 : Option Addr} {c ci cq c3 c7 n m N nq r : Nat} {ps ins : List TP} {qx xs : List Nat} {pk : List Int} {pts : List (List Nat)} (h3 : Sl w3 A3 N 1 ((ps ++ ins).map TP.v)) (hn : ps.length = n) (hm : ins.length = m) (hN : N = n + m) (hx : RR.Ok w ⟨O, c, ps⟩) (hy : RR.Ok w ⟨I, ci, ins⟩) (hQ : Sl w Q nq 1 (flts qx)) (hql : qx.length = nq) (hg : NrGood ps ins qx nq n m pk) (h03 : Mod (fun _ => False) w w3) (h37 : Mod (fun _ => False) w3 W7) (h67 : Mod (fun _ => False) w6 W7) (hp : pts.Perm ((ps ++ ins).map TP.xs)) (h7 : Sl w6 A7 nq 1 (flts xs)) (hxs : xs ∈ pts) (hr : Gd 0 r (sqx qx xs nq)) :
    Hid (∀ (W : World) (fb vb vo cV y0 : Nat), Mod (fun _ => False) W7 W → Blk W fb 51 [.slice A7 nq c7, .float .f64 r] → W.cell? ⟨vb, vo, none⟩ = some (.float .f64 y0) → Gd 0 y0 (sqx xs qx nq) → Calls Try.prog 23 #[.slice (some ⟨fb, 0, none⟩) 1 1, .slice A3 N c3, .slice Q nq cq, .slice (some ⟨vb, vo, none⟩) 1 cV] W fun e w' => e = .returned (.bool true) ∧ Mod (fun _ => False) W w') := by
  intro W fb vb vo cV y0 hW hb hc hy0
  have hxl : xs.length = nq := by have := h7.1; simpa [flts] using this
  have hb3 := hg.2.2.2.1
  obtain ⟨p2, hp2, hp3⟩ := List.mem_map.1 (hp.mem_iff.1 hxs)
  have hgr : TP.Gr ⟨A7, c7, xs⟩ := gr_xs (hg.1 p2 hp2).2 hp3.symm
  refine found_at (some ⟨fb, 0, none⟩) A3 (some ⟨vb, vo, none⟩) 1 1 N c3 cV nq [(⟨A7, c7, xs⟩, r)] (ps ++ ins) ⟨Q, cq, qx⟩ [y0] W ⟨rfl, fun _ => ⟨fb, 0, rfl, fun i x hi => ?_⟩⟩ (fun x hx => ?_) ⟨rfl, fun _ => ⟨vb, vo, rfl, fun j u hu => ?_⟩⟩ (fun i x y hi hj => ?_) (nr_rows h3 hx hy hg h03 (h37.trans hW)) (fun p hp => (hg.1 p hp).2) ⟨hql, by show Sl W Q qx.length 1 _; rw [hql]; exact hQ.mod ((h03.trans h37).trans hW)⟩ (TP.gr_of hg.2.1) (one_count hp hxs) (by omega) hg.2.2.1.2
  · cases i with
    | zero =>
      simp only [List.getElem?_cons_zero, Option.some.injEq] at hi
      subst hi
      refine ⟨?_, hb.at (i := 1) rfl⟩
      show W.cell? ⟨fb, 0, none⟩ = some (.slice A7 xs.length c7)
      rw [hxl]
      exact hb.at (i := 0) rfl
    | succ i => simp at hi
  · rw [List.mem_singleton.1 hx]
    exact ⟨⟨by show Sl W A7 xs.length 1 _; rw [hxl]; exact h7.mod (h67.trans hW), by show xs.length ≤ _; have := hg.2.2.1.2; omega⟩, hxl, hgr⟩
  · cases j with
    | zero =>
      simp only [flts, List.map_cons, List.map_nil, List.getElem?_cons_zero, Option.some.injEq] at hu
      subst hu
      exact hc
    | succ j => simp [flts] at hu
  · cases i with
    | zero =>
      simp only [List.getElem?_cons_zero, Option.some.injEq] at hi hj
      subst hi hj
      exact ⟨by rw [sqx_comm]; exact hr, hy0⟩
    | succ i => simp at hi

set_option maxRecDepth 100000 in
set_option maxHeartbeats 8000000 in
theorem fnTkNearest_at (x y : RR) (P Q : Option Addr) (cp nk cq nq : Nat) (pk : List Int) (qx : List Nat) (w : World) (hx : x.Ok w) (hy : y.Ok w) (hP : Sl w P nk 1 (ints pk)) (hPA : P = none → cp = 0) (hnk : nk ≤ 9223372036854775807) (hpk : ∀ k ∈ pk, k ≤ 9223372036854775807) (hQ : Sl w Q nq 1 (flts qx)) (hnq : nq ≤ 9223372036854775807) :
    Calls Try.prog 6 #[x.v, .slice P nk cp, y.v, .slice Q nq cq] w (Yes w) := by
  have hpl : pk.length = nk := by have := hP.1; simpa [ints] using this
  have hql : qx.length = nq := by have := hQ.1; simpa [flts] using this
  obtain ⟨O, c, ps⟩ := x
  obtain ⟨I, ci, ins⟩ := y
  obtain ⟨n, hn⟩ : ∃ n, ps.length = n := ⟨_, rfl⟩
  obtain ⟨m, hm⟩ : ∃ m, ins.length = m := ⟨_, rfl⟩
  obtain ⟨N, hN⟩ : ∃ N, N = n + m := ⟨_, rfl⟩
  have ex : (RR.mk O c ps).v = .slice O n c := by rw [← hn]; rfl
  have ey : (RR.mk I ci ins).v = .slice I m ci := by rw [← hm]; rfl
  have hnl : n ≤ 9223372036854775807 := by rw [← hn]; exact hx.2.2
  have hml : m ≤ 9223372036854775807 := by rw [← hm]; exact hy.2.2
  have FX : Hid (∀ W : World, Mod (fun _ => False) w W → Calls Try.prog 8 #[.slice O n c] W (FitsTold ⟨O, c, ps⟩ W)) := fun W hm => by rw [← ex]; exact fits4_any _ W (hx.mod hm)
  have FY : Hid (∀ W : World, Mod (fun _ => False) w W → Calls Try.prog 8 #[.slice I m ci] W (FitsTold ⟨I, ci, ins⟩ W)) := fun W h => by rw [← ey]; exact fits4_any _ W (hy.mod h)
  rw [ex, ey]
  have HX := Lib.hid (And.intro hx (And.intro hy (And.intro hP (And.intro hPA (And.intro hpk (And.intro hpl (And.intro hn (And.intro hm (And.intro hQ (And.intro hql hN))))))))))
  clear ex ey hx hy hP hPA hpk hpl hn hm hQ hql
  have ALL : Hid (n ≤ 2147483647 → m ≤ 2147483647 → Calls Try.prog 21 #[.slice O n c, .slice I m ci] w (AllTold ps ins N w)) := fun h1 h2 => by
    rw [HX.out.2.2.2.2.2.2.2.2.2.2]
    exact all_at ⟨O, c, ps⟩ ⟨I, ci, ins⟩ n m w HX.out.1 HX.out.2.1 HX.out.2.2.2.2.2.2.1 HX.out.2.2.2.2.2.2.2.1 ⟨h1, h2⟩
  by_cases hbig : 2147483647 < nk
  · clear hN
    go_enter Try.func6, Try.ntmps6
    have tok1 : True := trivial
    go_wp2_with (first | (go_at_call 8; have _t := tok1; clear _t tok1; refine (FX.out _ (Mod.refl _ _)).mono ?_; rintro _ w1 ⟨b1, rfl, rfl, hb1⟩; have HB1 := Lib.hid hb1; clear hb1))
    all_goals
      go_ret
      exact ⟨rfl, Mod.refl _ _⟩
  · have hdk : decide ((2147483647 : Int) < (nk : Int)) = false := decide_eq_false (by omega)
    by_cases hbq : 2147483647 < nq
    · clear hN
      go_enter Try.func6, Try.ntmps6
      have tok1 : True := trivial
      go_wp2_with (first | (go_at_call 8; have _t := tok1; clear _t tok1; refine (FX.out _ (Mod.refl _ _)).mono ?_; rintro _ w1 ⟨b1, rfl, rfl, hb1⟩; have HB1 := Lib.hid hb1; clear hb1) | (go_at_call 8; refine (FY.out _ (Mod.refl _ _)).mono ?_; rintro _ w2 ⟨b2, rfl, rfl, hb2⟩; have HB2 := Lib.hid hb2; clear hb2))
      all_goals
        go_ret
        exact ⟨rfl, Mod.refl _ _⟩
    · have hdq : decide ((2147483647 : Int) < (nq : Int)) = false := decide_eq_false (by omega)
      by_cases h0 : N = 0
      · subst h0
        clear hN
        go_enter Try.func6, Try.ntmps6
        have tok1 : True := trivial
        go_wp2_with (first | (go_at_call 8; have _t := tok1; clear _t tok1; refine (FX.out _ (Mod.refl _ _)).mono ?_; rintro _ w1 ⟨b1, rfl, rfl, hb1⟩; have HB1 := Lib.hid hb1; clear hb1) | (go_at_call 8; refine (FY.out _ (Mod.refl _ _)).mono ?_; rintro _ w2 ⟨b2, rfl, rfl, hb2⟩; have HB2 := Lib.hid hb2; clear hb2) | (go_at_call 21; refine (ALL.out (by have h1 : ps.length ≤ 2147483647 := (HB1.out (by first | assumption | exact not_false (by assumption))).1; have h2 := HX.out.2.2.2.2.2.2.1; omega) (by have h1 : ins.length ≤ 2147483647 := (HB2.out (by first | assumption | exact not_false (by assumption))).1; have h2 := HX.out.2.2.2.2.2.2.2.1; omega)).mono ?_; rintro _ w3 ⟨A3, c3, rfl, a1, a2, a3⟩; have H3 := Lib.hid (And.intro a1 (And.intro a2 a3)); clear a1 a2 a3))
        all_goals first
          | (go_ret; exact ⟨rfl, by first | exact Mod.refl _ _ | exact H3.out.2.1⟩)
      · have hN0 : 0 < n + m := by omega
        have HN0 := Lib.hid hN0
        have e0 : ((N : Int) == 0) = false := by
          have : (N : Int) ≠ 0 := by omega
          simpa using this
        have SM : Hid (∀ W : World, Mod (fun _ => False) w W → n ≤ 2147483647 → m ≤ 2147483647 → Calls Try.prog 9 #[.int .i64 nq, .float .f64 4697254411347427328, .slice P nk cp, .slice (some ⟨W.heap.size + 1, 0, none⟩) 3 3] ((W.alloc (.cells #[.slice Q nq cq] 26)).alloc (.cells #[.slice O n c, .slice I m ci, .slice (some ⟨W.heap.size, 0, none⟩) 1 1] 22)) fun e w' => ((W.alloc (.cells #[.slice Q nq cq] 26)).alloc (.cells #[.slice O n c, .slice I m ci, .slice (some ⟨W.heap.size, 0, none⟩) 1 1] 22)) = w' ∧ ∃ b, e = .returned (.bool b) ∧ (b = true → NrGood ps ins qx nq n m pk)) := by
          intro W hW h1 h2
          exact nr_some W hW HX.out.1 HX.out.2.1 HX.out.2.2.1 HX.out.2.2.2.2.2.2.1 HX.out.2.2.2.2.2.2.2.1 HX.out.2.2.2.2.2.2.2.2.1 HX.out.2.2.2.2.2.2.2.2.2.1 (by omega) h1 h2 (by omega)
        have KBF : Hid (∀ W : World, Mod (fun _ => False) w W → NrGood ps ins qx nq n m pk → Calls Try.prog 10 #[.slice O n c, .slice P nk cp, .bool false, .slice I m ci] W (KbTold nq n m ps ins (pk.map Int.toNat) W)) := by
          intro W hW h
          obtain ⟨g1, g2, g3, g4, g5, g6, g7, g8, -⟩ := HX.out
          obtain ⟨h1, h2, h3, h4, h5⟩ := h
          refine kbuild_at _ P I n c nk cp m ci nq ps ins _ W ⟨by rw [← g7]; exact (g1.mod hW).1, fun p hp => ⟨(g1.mod hW).2.1 p hp, (h1 p (by simp [hp])).1⟩⟩ ⟨by rw [← g8]; exact (g2.mod hW).1, fun p hp => ⟨(g2.mod hW).2.1 p hp, (h1 p (by simp [hp])).1⟩⟩ (by rw [List.length_map, g6]) (by rw [ints_nat h5.2]; exact g3.mod hW) g4 ?_ (fun p hp => (h1 p (by simp [hp])).2) (fun p hp => (h1 p (by simp [hp])).2) (by omega) (by omega)
          intro k hk
          obtain ⟨k', hk', rfl⟩ := List.mem_map.1 hk
          have := g5 k' hk'
          omega
        clear hN hN0
        go_enter Try.func6, Try.ntmps6
        have tok1 : True := trivial
        go_wp2_with (first | (go_at_call 8; have _t := tok1; clear _t tok1; refine (FX.out _ (Mod.refl _ _)).mono ?_; rintro _ w1 ⟨b1, rfl, rfl, hb1⟩; have HB1 := Lib.hid hb1; clear hb1) | (go_at_call 8; refine (FY.out _ (Mod.refl _ _)).mono ?_; rintro _ w2 ⟨b2, rfl, rfl, hb2⟩; have HB2 := Lib.hid hb2; clear hb2) | (go_at_call 21; refine (ALL.out (by have h1 : ps.length ≤ 2147483647 := (HB1.out (by first | assumption | exact not_false (by assumption))).1; have h2 := HX.out.2.2.2.2.2.2.1; omega) (by have h1 : ins.length ≤ 2147483647 := (HB2.out (by first | assumption | exact not_false (by assumption))).1; have h2 := HX.out.2.2.2.2.2.2.2.1; omega)).mono ?_; rintro _ w3 ⟨A3, c3, rfl, a1, a2, a3⟩; have H3 := Lib.hid (And.intro a1 (And.intro a2 a3)); clear a1 a2 a3) | (go_at_call 9; refine (SM.out w3 H3.out.2.1 (by have h1 : ps.length ≤ 2147483647 := (HB1.out (by first | assumption | exact not_false (by assumption))).1; have h2 := HX.out.2.2.2.2.2.2.1; omega) (by have h1 : ins.length ≤ 2147483647 := (HB2.out (by first | assumption | exact not_false (by assumption))).1; have h2 := HX.out.2.2.2.2.2.2.2.1; omega)).mono ?_; rintro _ w4 ⟨rfl, b3, rfl, hb3⟩; have HB3 := Lib.hid hb3; clear hb3) | (go_at_call 10; refine (KBF.out _ ((H3.out.2.1.alloc _).alloc _) (HB3.out (by first | assumption | exact not_false (by assumption)))).mono ?_; rintro _ w5 ⟨v, rs, mt, qs, is, rfl, k1, k2, k3, k4, k5, k6, k7, ⟨A5, c5, rfl⟩⟩; have HG : Hid (Grown nq (ps ++ ins) mt rs) := grown_of (HB3.out (by first | assumption | exact not_false (by assumption))).2.2.1.1 HX.out.2.2.2.2.2.2.1 HX.out.2.2.2.2.2.2.2.1 HN0.out (HB3.out (by first | assumption | exact not_false (by assumption))).1 k2 k3 k4 k5 k6; obtain ⟨N5, hN5⟩ : ∃ N5, N5 = rs.length := ⟨_, rfl⟩; rw [← hN5] at k1; rw [← hN5]; have HK := Lib.hid (And.intro k1 (And.intro hN5 k7)); clear k1 k2 k3 k4 k5 k6 k7 hN5) | (go_at_call 22; refine (knearest_at A5 Q c5 N5 cq nq _ qx rs mt w5 (HB3.out (by first | assumption | exact not_false (by assumption))).2.2.1 HK.out.2.1 HG.out.box HG.out.some HK.out.1 HG.out.seg (HX.out.2.2.2.2.2.2.2.2.1.mod (((H3.out.2.1.alloc _).alloc _).trans HK.out.2.2)) (HB3.out (by first | assumption | exact not_false (by assumption))).2.1 HG.out.good HG.out.ord HG.out.each).mono ?_; rintro _ w6 ⟨A7, c7, xs, r, rfl, n1, n2, n3, n4, n5, n6⟩; have H6 := Lib.hid (And.intro n1 (And.intro n2 (And.intro n3 (And.intro n4 (And.intro n5 n6))))); clear n1 n2 n3 n4 n5 n6))
        all_goals first
          | (go_ret; exact ⟨rfl, by first | exact Mod.refl _ _ | exact H3.out.2.1 | exact (H3.out.2.1.alloc _).alloc _⟩)
          | skip
        have hg := HB3.out (by first | assumption | exact not_false (by assumption))
        obtain ⟨o7, ho7⟩ : ∃ o7, o7 = Obj.cells #[.slice A7 nq c7, .float .f64 r] 51 := ⟨_, rfl⟩
        obtain ⟨W7, eW7⟩ : ∃ W7, W7 = w6.alloc o7 := ⟨_, rfl⟩
        have hm7 : Mod (fun _ => False) w W7 := by rw [eW7]; exact ((((H3.out.2.1.alloc _).alloc _).trans HK.out.2.2).trans H6.out.2.2.2.2.2).alloc _
        have hm67 : Mod (fun _ => False) w6 W7 := by rw [eW7]; exact (Mod.refl _ _).alloc _
        have hm37 : Mod (fun _ => False) w3 W7 := by rw [eW7]; exact (((((Mod.refl _ _).alloc _).alloc _).trans HK.out.2.2).trans H6.out.2.2.2.2.2).alloc _
        have B7 : Blk W7 w6.heap.size 51 [.slice A7 nq c7, .float .f64 r] := by rw [eW7, ho7]; exact Blk.new' w6 _ _
        have SQF : Hid (∀ W : World, Mod (fun _ => False) W7 W → Calls Try.prog 24 #[.slice A3 N c3, .slice Q nq cq] W fun e w' => ∃ (vb vo cV y0 : Nat), e = .returned (.slice (some ⟨vb, vo, none⟩) N cV) ∧ w'.cell? ⟨vb, vo, none⟩ = some (.float .f64 y0) ∧ (1 : Int) ≤ cV ∧ cV ≤ 9223372036854775807 ∧ Gd 0 y0 (sqx xs qx nq) ∧ Mod (fun _ => False) W w') :=
          nr_squares H3.out.1 (by omega) HX.out.2.2.2.2.2.2.1 HX.out.2.2.2.2.2.2.2.1 HX.out.2.2.2.2.2.2.2.2.2.2 HX.out.1 HX.out.2.1 HX.out.2.2.2.2.2.2.2.2.1 HX.out.2.2.2.2.2.2.2.2.2.1 hg H3.out.2.1 hm37 HG.out.pts H6.out.2.1 H6.out.2.2.2.1
        have FDF : Hid (∀ (W : World) (fb vb vo cV y0 : Nat), Mod (fun _ => False) W7 W → Blk W fb 51 [.slice A7 nq c7, .float .f64 r] → W.cell? ⟨vb, vo, none⟩ = some (.float .f64 y0) → Gd 0 y0 (sqx xs qx nq) → Calls Try.prog 23 #[.slice (some ⟨fb, 0, none⟩) 1 1, .slice A3 N c3, .slice Q nq cq, .slice (some ⟨vb, vo, none⟩) 1 cV] W fun e w' => e = .returned (.bool true) ∧ Mod (fun _ => False) W w') :=
          nr_found H3.out.1 HX.out.2.2.2.2.2.2.1 HX.out.2.2.2.2.2.2.2.1 HX.out.2.2.2.2.2.2.2.2.2.2 HX.out.1 HX.out.2.1 HX.out.2.2.2.2.2.2.2.2.1 HX.out.2.2.2.2.2.2.2.2.2.1 hg H3.out.2.1 hm37 hm67 HG.out.pts H6.out.1 H6.out.2.1 H6.out.2.2.1
        have KEEP : Hid (∀ W : World, Mod (fun _ => False) W7 W → W.cell? ⟨w6.heap.size, 0, none⟩ = some (.slice A7 nq c7) ∧ W.cell? ⟨w6.heap.size, 1, none⟩ = some (.float .f64 r)) := fun W hm => ⟨(B7.mod hm (fun h => h)).at (i := 0) rfl, (B7.mod hm (fun h => h)).at (i := 1) rfl⟩
        have HM7 := Lib.hid hm7
        rw [← ho7, ← eW7]
        clear hm7 hm67 hm37 B7 eW7 ho7 hg
        go_region_held3 (fun w' => w'.cell? ⟨w6.heap.size, 0, none⟩ = some (.slice A7 nq c7) ∧ w'.cell? ⟨w6.heap.size, 1, none⟩ = some (.float .f64 r)) (exact KEEP.out _ (by repeat' (first | with_reducible exact Mod.refl _ _ | with_reducible exact HMA.out | with_reducible exact HMB.out | with_reducible refine Mod.drew ?_ | with_reducible refine Mod.drewN ?_ _ | with_reducible refine Mod.alloc ?_ _)))
          (first
            | (go_at_call 24; refine (SQF.out _ (by repeat' (first | with_reducible exact Mod.refl _ _ | with_reducible exact HMA.out | with_reducible refine Mod.drew ?_ | with_reducible refine Mod.drewN ?_ _ | with_reducible refine Mod.alloc ?_ _))).mono ?_; rintro _ w9 ⟨vb, vo, cV, y0, rfl, s1, s2, s3, s4, s5⟩; have hma : Mod (fun _ => False) W7 w9 := Mod.trans (by repeat' (first | with_reducible exact Mod.refl _ _ | with_reducible exact HMA.out | with_reducible refine Mod.drew ?_ | with_reducible refine Mod.drewN ?_ _ | with_reducible refine Mod.alloc ?_ _)) s5; have HMA := Lib.hid hma; (try (have b9 : Blk w9 W7.heap.size 51 [.slice A7 nq c7, .float .f64 r] := (by first | exact (Blk.new' W7 #[.slice A7 nq c7, .float .f64 r] 51).mod s5 (fun h => h) | exact (Blk.new' W7.drew #[.slice A7 nq c7, .float .f64 r] 51).mod s5 (fun h => h) | exact (Blk.new' (W7.drewN _) #[.slice A7 nq c7, .float .f64 r] 51).mod s5 (fun h => h)); have HB9 := Lib.hid b9; clear b9)); have HS := Lib.hid (And.intro s1 (And.intro s4 s5)); clear hma s1 s4 s5)
            | (go_at_call 23; refine (FDF.out _ _ vb vo cV y0 (by repeat' (first | with_reducible exact Mod.refl _ _ | with_reducible exact HMA.out | with_reducible refine Mod.drew ?_ | with_reducible refine Mod.drewN ?_ _ | with_reducible refine Mod.alloc ?_ _)) (by first | exact HB9.out | exact Blk.new' _ #[.slice A7 nq c7, .float .f64 r] 51) (((show Mod (fun _ => False) w9 _ from (by repeat' (first | with_reducible exact Mod.refl _ _ | with_reducible exact HMA.out | with_reducible refine Mod.drew ?_ | with_reducible refine Mod.drewN ?_ _ | with_reducible refine Mod.alloc ?_ _))).cell (lt_of_cell HS.out.1) (fun h => h)).trans HS.out.1) HS.out.2.1).mono ?_; rintro _ w10 ⟨rfl, hm10⟩; have hmb : Mod (fun _ => False) W7 w10 := Mod.trans (by repeat' (first | with_reducible exact Mod.refl _ _ | with_reducible exact HMA.out | with_reducible refine Mod.drew ?_ | with_reducible refine Mod.drewN ?_ _ | with_reducible refine Mod.alloc ?_ _)) hm10; have HMB := Lib.hid hmb; clear hmb hm10))
        all_goals
          go_wp2_with fail
          go_ret
          exact ⟨rfl, HM7.out.trans (by repeat' (first | with_reducible exact HMB.out | with_reducible refine Mod.drew ?_ | with_reducible refine Mod.drewN ?_ _))⟩
end Go.Proofs.Ytmeooadgdagiiaa
