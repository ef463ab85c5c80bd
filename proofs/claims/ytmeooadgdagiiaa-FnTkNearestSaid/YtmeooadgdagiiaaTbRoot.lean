/- The walk of FnTkRoot: it answers true, and what came in is as it was. Conditions: none on the numbers. -/
import Derived.Test.YtmeooadgdagiiaaTbKb
import Derived.Test.YtmeooadgdagiiaaTbSome
import Derived.Deep.QuietTactic
namespace Go.Proofs.Ytmeooadgdagiiaa
open Go.RowKit Lox
set_option linter.unusedVariables false
attribute [local go_sem] run_store_flt run_store_fn

/-- The law answers true, and nothing that was there has turned. -/
def Yes (w : World) (e : Ending) (w' : World) : Prop := e = .returned (.bool true) ∧ Mod (fun _ => False) w w'

theorem not_false {b : Bool} (h : (!b) = false) : b = true := by simpa using h

theorem root_row {dims n : Nat} {ps qs is : List TP} {ks : List Nat} {mt : MT} {rs : List KR} (hn : 0 < n) (hl : ps.length = n) (hs : qs.map TP.xs = ps.map TP.xs) (hT : mt.T = KB.inss leB dims (KB.build leB dims n qs ks 0).1 is) (hr : rs.map KR.plain = mt.flat 0)
    {p : TP} (hp : ps[(KB.pick n ks).1]? = some p) : ∃ r0, rs[0]? = some r0 ∧ r0.p.xs = p.xs := by
  have hql : qs.length = n := by have := congrArg List.length hs; simpa [hl] using this
  obtain ⟨q, hq⟩ : ∃ q, qs[(KB.pick n ks).1]? = some q := ⟨_, List.getElem?_eq_getElem (by rw [hql]; exact KB.pick_lt n hn ks)⟩
  have hqp : q.xs = p.xs := by
    have h1 : (qs.map TP.xs)[(KB.pick n ks).1]? = some q.xs := by rw [List.getElem?_map, hq]; rfl
    rw [hs, List.getElem?_map, hp] at h1
    injection h1 with h1
    exact h1.symm
  obtain ⟨n', rfl⟩ : ∃ n', n = n' + 1 := ⟨n - 1, by omega⟩
  have hroot := KB.inss_root leB dims q is _ (KB.build_root leB dims n' qs ks (by omega) q (by rw [hql]; exact hq))
  rw [← hT] at hroot
  cases mt with
  | nil => exact hroot.elim
  | node g x d bx l r =>
    have hx : x = q := hroot
    subst hx
    cases rs with
    | nil => simp [MT.flat] at hr
    | cons r0 rs =>
      simp only [List.map_cons, MT.flat, List.cons.injEq] at hr
      refine ⟨r0, rfl, ?_⟩
      have := congrArg PR.xs hr.1
      exact this.trans hqp

theorem ints_nat {pk : List Int} (h : ∀ k ∈ pk, 0 ≤ k) : (pk.map Int.toNat).map Int.ofNat = pk := by
  rw [List.map_map]
  refine (List.map_congr_left fun k hk => ?_).trans (List.map_id _)
  have := h k hk
  show ((k.toNat : Nat) : Int) = k
  omega

/-- What the law's last row reads. -/
structure RootEnd (W : World) (b o t q0 : Nat) (A5 : Option Addr) (N : Nat) : Prop where
  ex : ∃ (g : Nat) (A : Option Addr) (c : Nat) (B : Option Addr) (c' : Nat) (xs : List Nat), A5 = some ⟨g, 0, none⟩ ∧ 0 < N ∧ N ≤ 9223372036854775807 ∧ W.cell? ⟨g, 0, none⟩ = some (.slice A q0 c) ∧ Sl W A q0 1 (flts xs) ∧ W.cell? ⟨b, o + t, none⟩ = some (.slice B q0 c') ∧ Sl W B q0 1 (flts xs) ∧ ∀ x ∈ xs, Num x

theorem root_end {w W : World} {H b o t q0 n : Nat} {A5 : Option Addr} {c5 : Nat} {ps qs is : List TP} {ks : List Nat} {mt : MT} {rs : List KR} (hn : 0 < n) (hl : ps.length = n) (hcell : ∀ j u, (ps.map TP.v)[j]? = some u → w.cell? ⟨b, o + j, none⟩ = some u) (hrd : ∀ p ∈ ps, p.Rd w)
    (hall : ∀ p ∈ ps, (p.xs.length : Int) = (q0 : Int) ∧ ∀ y ∈ p.xs, ∃ n, Wh y n) (hm : Mod (fun _ => False) w W) (hK : KS H W q0 (.slice A5 rs.length c5) rs) (hr : rs.map KR.plain = mt.flat 0) (hT : mt.T = KB.inss leB q0 (KB.build leB q0 n qs ks 0).1 is) (hs : qs.map TP.xs = ps.map TP.xs) (ht : t = (KB.pick n ks).1) :
    RootEnd W b o t q0 A5 rs.length := by
  have htn : t < n := by rw [ht]; exact KB.pick_lt n hn ks
  obtain ⟨p, hp⟩ : ∃ p, ps[t]? = some p := ⟨_, List.getElem?_eq_getElem (by omega)⟩
  have hpm := List.mem_of_getElem? hp
  obtain ⟨r0, hr0, hx⟩ := root_row hn hl hs hT hr (by rw [← ht]; exact hp)
  have hpos : 0 < rs.length := (List.getElem?_eq_some_iff.1 hr0).1
  obtain ⟨g, cap, e5, -, -⟩ := hK.own.form hpos
  injection e5 with e5 e6 e7
  subst e5
  have hc := (hK.cell rfl hr0 (j := 0) (by omega)).1
  have hok := (hK.ok r0 (List.mem_of_getElem? hr0)).1.1
  have hpl : p.xs.length = q0 := by have := (hall p hpm).1; omega
  have hpc := hcell t p.v (by rw [List.getElem?_map, hp]; rfl)
  have hcap : rs.length ≤ 9223372036854775807 := by
    rcases hK.own.2 with ⟨e, _⟩ | ⟨g', cap', cur, e1, hB, hg, hc1, hcm, _⟩
    · cases e
    · cases e1
      unfold maxLen at hcm
      omega
  refine ⟨g, r0.p.A, r0.p.c, p.A, p.c, p.xs, rfl, hpos, hcap, ?_, ?_, ?_, ?_, fun x hx => ?_⟩
  · rw [Nat.zero_mul] at hc
    rw [hc]
    show some (Value.slice r0.p.A r0.p.xs.length r0.p.c) = _
    rw [hok.1]
  · have := hok.2
    rw [hok.1, hx] at this
    exact this
  · refine (hm.cell (lt_of_cell hpc) (fun h => h)).trans ?_
    rw [hpc]
    show some (Value.slice p.A p.xs.length p.c) = _
    rw [hpl]
  · have := ((hrd p hpm).mod hm).1
    rw [hpl] at this
    exact this
  · obtain ⟨z, hz⟩ := (hall p hpm).2 x hx
    have hf := hz.1.1
    obtain ⟨s, m, i, hd⟩ := hf
    unfold Num
    rw [hd]
    rfl

theorem same_q (A B : Option Addr) (n c c' : Nat) (xs : List Nat) (w : World) (k : Nat) (ha : Sl w A n 1 (flts xs)) (hb : Sl w B n 1 (flts xs)) (hn : n ≤ 9223372036854775807) (hx : ∀ x ∈ xs, Num x) :
    Calls Try.prog 15 #[.slice A n c, .slice B n c'] (w.drewN k) fun e w' => e = .returned (.bool true) ∧ ∃ m, w' = w.drewN m :=
  (same_yes A B n c c' xs (w.drewN k) (ha.keep fun _ _ => rfl) (hb.keep fun _ _ => rfl) hn hx).mono fun _ _ ⟨he, hw⟩ => ⟨he, k, hw.symm⟩

set_option maxRecDepth 100000 in
set_option maxHeartbeats 8000000 in
theorem fnTkRoot_at (x y : RR) (P : Option Addr) (cp nk : Nat) (pk : List Int) (w : World) (hx : x.Ok w) (hy : y.Ok w) (hP : Sl w P nk 1 (ints pk)) (hPA : P = none → cp = 0) (hnk : nk ≤ 9223372036854775807) (hpk : ∀ k ∈ pk, k ≤ 9223372036854775807) :
    Calls Try.prog 4 #[x.v, .slice P nk cp, y.v] w (Yes w) := by
  have hpl : pk.length = nk := by have := hP.1; simpa [ints] using this
  obtain ⟨O, c, ps⟩ := x
  obtain ⟨I, ci, ins⟩ := y
  obtain ⟨n, hn⟩ : ∃ n, ps.length = n := ⟨_, rfl⟩
  obtain ⟨m, hm⟩ : ∃ m, ins.length = m := ⟨_, rfl⟩
  have ex : (RR.mk O c ps).v = .slice O n c := by rw [← hn]; rfl
  have ey : (RR.mk I ci ins).v = .slice I m ci := by rw [← hm]; rfl
  have hnl : n ≤ 9223372036854775807 := by rw [← hn]; exact hx.2.2
  have hml : m ≤ 9223372036854775807 := by rw [← hm]; exact hy.2.2
  have FX : Hid (∀ W : World, Mod (fun _ => False) w W → Calls Try.prog 8 #[.slice O n c] W (FitsTold ⟨O, c, ps⟩ W)) := fun W hm => by rw [← ex]; exact fits4_any _ W (hx.mod hm)
  have FY : Hid (∀ W : World, Mod (fun _ => False) w W → Calls Try.prog 8 #[.slice I m ci] W (FitsTold ⟨I, ci, ins⟩ W)) := fun W h => by rw [← ey]; exact fits4_any _ W (hy.mod h)
  rw [ex, ey]
  have HX := Lib.hid (And.intro hx (And.intro hy (And.intro hP (And.intro hPA (And.intro hpk (And.intro hpl (And.intro hn hm)))))))
  clear ex ey hx hy hP hPA hpk hpl hn hm
  by_cases hbig : 2147483647 < nk
  · go_enter Try.func4, Try.ntmps4
    have tok1 : True := trivial
    go_wp2_with (first | (go_at_call 8; have _t := tok1; clear _t tok1; refine (FX.out _ (Mod.refl _ _)).mono ?_; rintro _ w1 ⟨b1, rfl, rfl, hb1⟩; have HB1 := Lib.hid hb1; clear hb1))
    all_goals
      go_ret
      exact ⟨rfl, Mod.refl _ _⟩
  · by_cases h0 : n = 0
    · subst h0
      go_enter Try.func4, Try.ntmps4
      have tok1 : True := trivial
      go_wp2_with (first | (go_at_call 8; have _t := tok1; clear _t tok1; refine (FX.out _ (Mod.refl _ _)).mono ?_; rintro _ w1 ⟨b1, rfl, rfl, hb1⟩; have HB1 := Lib.hid hb1; clear hb1) | (go_at_call 8; refine (FY.out _ (Mod.refl _ _)).mono ?_; rintro _ w2 ⟨b2, rfl, rfl, hb2⟩; have HB2 := Lib.hid hb2; clear hb2))
      all_goals
        go_ret
        exact ⟨rfl, Mod.refl _ _⟩
    · have hx0 : 0 < ps.length := by rw [HX.out.2.2.2.2.2.2.1]; omega
      obtain ⟨p0, hp0⟩ : ∃ p0, ps[0]? = some p0 := ⟨_, List.getElem?_eq_getElem hx0⟩
      have hslx : Sl w O n 1 (ps.map TP.v) := by rw [← HX.out.2.2.2.2.2.2.1]; exact HX.out.1.1
      obtain ⟨b, o, eO, hcell⟩ := hslx.2 (by omega)
      subst eO
      obtain ⟨q0, hq0⟩ : ∃ q0, p0.xs.length = q0 := ⟨_, rfl⟩
      have c0 : w.cell? ⟨b, o, none⟩ = some (.slice p0.A q0 p0.c) := by
        have := hcell 0 p0.v (by rw [List.getElem?_map, hp0]; rfl)
        rw [Nat.add_zero] at this
        rw [this, ← hq0]; rfl
      have hq0l : q0 ≤ 9223372036854775807 := by rw [← hq0]; exact (HX.out.1.2.1 p0 (List.mem_of_getElem? hp0)).2
      have e0 : ((n : Int) == 0) = false := by
        have : (n : Int) ≠ 0 := by omega
        simpa using this
      have hbl := lt_of_cell c0
      have SM : Hid (∀ W : World, Mod (fun _ => False) w W → n ≤ 2147483647 → m ≤ 2147483647 → Calls Try.prog 9 #[.int .i64 q0, .float .f64 4697254411347427328, .slice P nk cp, .slice (some ⟨W.heap.size, 0, none⟩) 2 2] (W.alloc (.cells #[.slice (some ⟨b, o, none⟩) n c, .slice I m ci] 22)) (SomeTold q0 [⟨some ⟨b, o, none⟩, c, ps⟩, ⟨I, ci, ins⟩] pk (W.alloc (.cells #[.slice (some ⟨b, o, none⟩) n c, .slice I m ci] 22)))) := by
        intro W hW h1 h2
        have hm2 := hW.alloc (.cells #[.slice (some ⟨b, o, none⟩) n c, .slice I m ci] 22)
        obtain ⟨g1, g2, g3, g4, g5, g6, g7, g8⟩ := HX.out
        refine some_at _ P 2 2 nk cp q0 [⟨some ⟨b, o, none⟩, c, ps⟩, ⟨I, ci, ins⟩] pk _ ?_ (by omega) ?_ (g3.mod hm2) (by omega)
        · have hb := Blk.new' W #[.slice (some ⟨b, o, none⟩) n c, .slice I m ci] 22
          refine ⟨rfl, fun _ => ⟨W.heap.size, 0, rfl, fun j u hu => ?_⟩⟩
          rw [Nat.zero_add]
          exact hb.at (by rw [← hu]; simp only [List.map_cons, List.map_nil, RR.v, g7, g8])
        · intro z hz
          rcases List.mem_cons.1 hz with rfl | hz
          · exact ⟨g1.mod hm2, by show ps.length ≤ _; omega⟩
          · rw [List.mem_singleton.1 hz]
            exact ⟨g2.mod hm2, by show ins.length ≤ _; omega⟩
      have KBF : Hid (∀ W : World, Mod (fun _ => False) w W → ((∀ x ∈ [(⟨some ⟨b, o, none⟩, c, ps⟩ : RR), ⟨I, ci, ins⟩], (∀ p ∈ x.ps, (p.xs.length : Int) = (q0 : Int) ∧ ∀ y ∈ p.xs, ∃ n, Wh y n) ∧ (0 : Int) < (q0 : Int)) ∧ (q0 : Int) ≤ 4 ∧ many [⟨some ⟨b, o, none⟩, c, ps⟩, ⟨I, ci, ins⟩] ≤ 120 ∧ pk.length ≤ 80 ∧ ∀ k ∈ pk, 0 ≤ k) →
          Calls Try.prog 10 #[.slice (some ⟨b, o, none⟩) n c, .slice P nk cp, .bool false, .slice I m ci] W (KbTold q0 n m ps ins (pk.map Int.toNat) W)) := by
        rintro W hW ⟨h1, h2, h3, h4, h5⟩
        obtain ⟨g1, g2, g3, g4, g5, g6, g7, g8⟩ := HX.out
        obtain ⟨a1, a2⟩ := h1 _ (List.mem_cons_self ..)
        obtain ⟨a3, -⟩ := h1 _ (List.mem_cons_of_mem _ (List.mem_cons_self ..))
        have hnm : n + m ≤ 120 := by simpa [many, g7, g8] using h3
        refine kbuild_at _ P I n c nk cp m ci q0 ps ins _ W ⟨by rw [← g7]; exact (g1.mod hW).1, fun p hp => ⟨(g1.mod hW).2.1 p hp, by have := (a1 p hp).1; omega⟩⟩ ⟨by rw [← g8]; exact (g2.mod hW).1, fun p hp => ⟨(g2.mod hW).2.1 p hp, by have := (a3 p hp).1; omega⟩⟩ (by rw [List.length_map, g6]) (by rw [ints_nat h5]; exact g3.mod hW) g4 ?_ (fun p hp => TP.gr_of (a1 p hp).2) (fun p hp => TP.gr_of (a3 p hp).2) (by omega) (by omega)
        intro k hk
        obtain ⟨k', hk', rfl⟩ := List.mem_map.1 hk
        have := g5 k' hk'
        omega
      have HPC := Lib.hid hcell
      have HP0 := Lib.hid (And.intro hp0 hq0)
      clear hx0 hp0 hslx hcell hq0
      by_cases hk0 : nk = 0
      · subst hk0
        obtain ⟨t, ht⟩ : ∃ t, t = n / 2 := ⟨_, rfl⟩
        have hat : (n : Int) / 2 = (t : Int) := by omega
        have htn : (t : Int) < n := by omega
        have ht0 : (0 : Int) ≤ t := by omega
        have HTT := Lib.hid ht
        clear ht
        go_enter Try.func4, Try.ntmps4
        have tok1 : True := trivial
        go_wp2_with (first
          | (go_at_call 8; have _t := tok1; clear _t tok1; refine (FX.out _ (Mod.refl _ _)).mono ?_; rintro _ w1 ⟨b1, rfl, rfl, hb1⟩; have HB1 := Lib.hid hb1; clear hb1)
          | (go_at_call 8; refine (FY.out _ (Mod.refl _ _)).mono ?_; rintro _ w2 ⟨b2, rfl, rfl, hb2⟩; have HB2 := Lib.hid hb2; clear hb2)
          | (go_at_call 9; refine (SM.out w (Mod.refl _ _) (by have h1 : ps.length ≤ 2147483647 := (HB1.out (by first | assumption | exact not_false (by assumption))).1; have h2 := HX.out.2.2.2.2.2.2.1; omega) (by have h1 : ins.length ≤ 2147483647 := (HB2.out (by first | assumption | exact not_false (by assumption))).1; have h2 := HX.out.2.2.2.2.2.2.2; omega)).mono ?_; rintro _ w3 ⟨rfl, b3, rfl, hb3⟩; have HB3 := Lib.hid hb3; clear hb3)
          | (go_at_call 10; refine (KBF.out _ ((Mod.refl _ _).alloc _) (HB3.out (by first | assumption | exact not_false (by assumption)))).mono ?_; rintro _ w4 ⟨v, rs, mt, qs, is, rfl, k1, k2, k3, k4, k5, k6, k7, ⟨A5, c5, rfl⟩⟩; have HK := Lib.hid (And.intro k1 (And.intro k2 (And.intro k3 (And.intro k4 (And.intro k5 (And.intro k6 k7)))))); clear k1 k2 k3 k4 k5 k6 k7))
        all_goals first
          | (go_ret; exact ⟨rfl, by first | exact Mod.refl _ _ | exact (Mod.refl _ _).alloc _⟩)
          | skip
        have hb3 := HB3.out (by first | assumption | exact not_false (by assumption))
        have hE : RootEnd w4 b o t q0 A5 rs.length := root_end (by omega) HX.out.2.2.2.2.2.2.1 HPC.out HX.out.1.2.1 (hb3.1 _ (List.mem_cons_self ..)).1 (((Mod.refl _ _).alloc _).trans HK.out.2.2.2.2.2.2) HK.out.1 HK.out.2.1 HK.out.2.2.1 HK.out.2.2.2.2.1 (by rw [HTT.out]; have h6 := HX.out.2.2.2.2.2.1; rw [List.length_eq_zero_iff.1 h6]; rfl)
        obtain ⟨g, A, cA, B, cB, xs, rfl, hN, hN2, y1, y2, y3, y4, y5⟩ := hE.ex
        obtain ⟨N, hNe⟩ : ∃ N, N = rs.length := ⟨_, rfl⟩
        rw [← hNe] at hN hN2
        have HNe := Lib.hid hNe
        have HY := Lib.hid (And.intro y2 (And.intro y4 y5))
        have hmw : Hid (Mod (fun _ => False) w w4) := ((Mod.refl _ _).alloc _).trans HK.out.2.2.2.2.2.2
        have dN : decide ((0 : Int) < (N : Int)) = true := decide_eq_true (by omega)
        have i1 : (0 : Int) < (N : Int) := by omega
        rw [← hNe]
        clear hb3 hE hNe y2 y4 y5
        go_quiet ((go_at_call 15; exact same_q A B q0 cA cB xs w4 _ HY.out.1 HY.out.2.1 hq0l HY.out.2.2))
        go_wp2
        go_ret
        exact ⟨rfl, hmw.out.drewN _⟩
      · obtain ⟨x0, hx0⟩ : ∃ x0, pk[0]? = some x0 := ⟨_, List.getElem?_eq_getElem (by rw [HX.out.2.2.2.2.2.1]; omega)⟩
        obtain ⟨bp, op, eP, hcp⟩ := HX.out.2.2.1.2 (by omega)
        have cp0 : w.cell? ⟨bp, op, none⟩ = some (.int .i64 x0) := by
          have := hcp 0 _ (ints_at hx0)
          rw [Nat.add_zero] at this
          exact this
        have hpl0 := lt_of_cell cp0
        have hx0m := List.mem_of_getElem? hx0
        have hx0b := HX.out.2.2.2.2.1 x0 hx0m
        subst eP
        have n0 : (0 : Int) < nk := by omega
        have hdk : decide ((2147483647 : Int) < (nk : Int)) = false := decide_eq_false (by omega)
        by_cases hneg : x0 < 0
        · have HNG := Lib.hid (And.intro hx0m hneg)
          clear hcp hx0m hneg hx0
          go_enter Try.func4, Try.ntmps4
          have tok1 : True := trivial
          go_wp2_with (first
            | (go_at_call 8; have _t := tok1; clear _t tok1; refine (FX.out _ (Mod.refl _ _)).mono ?_; rintro _ w1 ⟨b1, rfl, rfl, hb1⟩; have HB1 := Lib.hid hb1; clear hb1)
            | (go_at_call 8; refine (FY.out _ (Mod.refl _ _)).mono ?_; rintro _ w2 ⟨b2, rfl, rfl, hb2⟩; have HB2 := Lib.hid hb2; clear hb2)
            | (go_at_call 9; refine (SM.out w (Mod.refl _ _) (by have h1 : ps.length ≤ 2147483647 := (HB1.out (by first | assumption | exact not_false (by assumption))).1; have h2 := HX.out.2.2.2.2.2.2.1; omega) (by have h1 : ins.length ≤ 2147483647 := (HB2.out (by first | assumption | exact not_false (by assumption))).1; have h2 := HX.out.2.2.2.2.2.2.2; omega)).mono ?_; rintro _ w3 ⟨rfl, b3, rfl, hb3⟩; have HB3 := Lib.hid hb3; clear hb3)
            | (go_at_call 10; exact absurd ((HB3.out (by first | assumption | exact not_false (by assumption))).2.2.2.2 x0 HNG.out.1) (by have := HNG.out.2; omega)))
          all_goals first
            | (go_ret; exact ⟨rfl, by first | exact Mod.refl _ _ | exact (Mod.refl _ _).alloc _⟩)
        · obtain ⟨k0, rfl⟩ : ∃ k0 : Nat, x0 = (k0 : Int) := ⟨x0.toNat, by omega⟩
          obtain ⟨t, ht⟩ : ∃ t, t = k0 % n := ⟨_, rfl⟩
          have hat : (k0 : Int) % (n : Int) = (t : Int) := by rw [ht]; simp
          have hlt := Nat.mod_lt k0 (show 0 < n by omega)
          have htn : (t : Int) < n := by omega
          have ht0 : (0 : Int) ≤ t := by omega
          have hn0 : (0 : Int) < n := by omega
          have HTT : Hid (t = (KB.pick n (pk.map Int.toNat)).1) := by
            show _ = _
            cases hpk' : pk with
            | nil => rw [hpk'] at hx0; simp at hx0
            | cons a l =>
              rw [hpk'] at hx0
              simp only [List.getElem?_cons_zero, Option.some.injEq] at hx0
              subst hx0
              simp only [List.map_cons, Int.toNat_natCast, KB.pick]
              exact ht
          clear hcp hx0m hneg hx0 ht hlt
          go_enter Try.func4, Try.ntmps4
          have tok1 : True := trivial
          go_wp2_with (first
            | (go_at_call 8; have _t := tok1; clear _t tok1; refine (FX.out _ (Mod.refl _ _)).mono ?_; rintro _ w1 ⟨b1, rfl, rfl, hb1⟩; have HB1 := Lib.hid hb1; clear hb1)
            | (go_at_call 8; refine (FY.out _ (Mod.refl _ _)).mono ?_; rintro _ w2 ⟨b2, rfl, rfl, hb2⟩; have HB2 := Lib.hid hb2; clear hb2)
            | (go_at_call 9; refine (SM.out w (Mod.refl _ _) (by have h1 : ps.length ≤ 2147483647 := (HB1.out (by first | assumption | exact not_false (by assumption))).1; have h2 := HX.out.2.2.2.2.2.2.1; omega) (by have h1 : ins.length ≤ 2147483647 := (HB2.out (by first | assumption | exact not_false (by assumption))).1; have h2 := HX.out.2.2.2.2.2.2.2; omega)).mono ?_; rintro _ w3 ⟨rfl, b3, rfl, hb3⟩; have HB3 := Lib.hid hb3; clear hb3)
            | (go_at_call 10; refine (KBF.out _ ((Mod.refl _ _).alloc _) (HB3.out (by first | assumption | exact not_false (by assumption)))).mono ?_; rintro _ w4 ⟨v, rs, mt, qs, is, rfl, k1, k2, k3, k4, k5, k6, k7, ⟨A5, c5, rfl⟩⟩; have HK := Lib.hid (And.intro k1 (And.intro k2 (And.intro k3 (And.intro k4 (And.intro k5 (And.intro k6 k7)))))); clear k1 k2 k3 k4 k5 k6 k7))
          all_goals first
            | (go_ret; exact ⟨rfl, by first | exact Mod.refl _ _ | exact (Mod.refl _ _).alloc _⟩)
            | skip
          have hb3 := HB3.out (by first | assumption | exact not_false (by assumption))
          have hE : RootEnd w4 b o t q0 A5 rs.length := root_end (by omega) HX.out.2.2.2.2.2.2.1 HPC.out HX.out.1.2.1 (hb3.1 _ (List.mem_cons_self ..)).1 (((Mod.refl _ _).alloc _).trans HK.out.2.2.2.2.2.2) HK.out.1 HK.out.2.1 HK.out.2.2.1 HK.out.2.2.2.2.1 HTT.out
          obtain ⟨g, A, cA, B, cB, xs, rfl, hN, hN2, y1, y2, y3, y4, y5⟩ := hE.ex
          obtain ⟨N, hNe⟩ : ∃ N, N = rs.length := ⟨_, rfl⟩
          rw [← hNe] at hN hN2
          have HNe := Lib.hid hNe
          have HY := Lib.hid (And.intro y2 (And.intro y4 y5))
          have hmw : Hid (Mod (fun _ => False) w w4) := ((Mod.refl _ _).alloc _).trans HK.out.2.2.2.2.2.2
          have dN : decide ((0 : Int) < (N : Int)) = true := decide_eq_true (by omega)
          have i1 : (0 : Int) < (N : Int) := by omega
          rw [← hNe]
          clear hb3 hE hNe y2 y4 y5
          go_quiet ((go_at_call 15; exact same_q A B q0 cA cB xs w4 _ HY.out.1 HY.out.2.1 hq0l HY.out.2.2))
          go_wp2
          go_ret
          exact ⟨rfl, hmw.out.drewN _⟩
end Go.Proofs.Ytmeooadgdagiiaa
