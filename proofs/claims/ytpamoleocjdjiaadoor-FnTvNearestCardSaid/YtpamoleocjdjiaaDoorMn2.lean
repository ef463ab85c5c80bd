/- Steps of a proof, one behind another: The walk of the search in a vantage-point tree in memory. The walks of vtree, Nearest and VNearest of a vantage-point tree. The walk of VNearest. The walk of FnTvNearest: it answers true, and what came in is as it was. Conditions: seeds below 2^64. FnTvNearest answers true, and what came in is as it was. Conditions: seeds below 2^64. Conditions: as each theorem says. -/
import Derived.Test.YtpamoleocjdjiaaDoorMn1
import Derived.Deep.RegionHeld3
import Derived.Deep.DrawnRows
import Derived.Deep.DeepCutAuto

namespace Go.Proofs.YtpamoleocjdjiaaDoor
open Go.RowKit Lox
set_option linter.unusedVariables false
attribute [local go_sem] run_store_flt run_store_fn
attribute [local go_sem ↓] Go.wp_at_zero Go.wp_at_succ

theorem vahead_dist (A : Option Addr) (n c : Nat) (w : World) : (nilAhead 308 78 (.slice A n c) "Distance").run Tryd.prog w = .ok (some false) w := by kernel_rfl

theorem vsq_bd2 {w : World} {dims : Nat} {p q : TP} (hp : p.Ok w dims ∧ p.Gr) (hq : q.xs.length = dims ∧ q.Gr) (hd : dims ≤ 4) : 0 ≤ vsq dims q p ∧ vsq dims q p ≤ 33554432 :=
  ⟨sqx_nn _ _ _, sqx_le10 q.xs p.xs (TP.gr_iff.1 hq.2) (TP.gr_iff.1 hp.2) dims (by have := hq.1; omega) (by have := hp.1.1; omega) hd⟩

theorem vsq_bd3 {dims : Nat} {p q : TP} (hp : p.xs.length = dims ∧ p.Gr) (hq : q.xs.length = dims ∧ q.Gr) (hd : dims ≤ 4) : 0 ≤ vsq dims q p ∧ vsq dims q p ≤ 33554432 :=
  ⟨sqx_nn _ _ _, sqx_le10 q.xs p.xs (TP.gr_iff.1 hq.2) (TP.gr_iff.1 hp.2) dims (by have := hq.1; omega) (by have := hp.1; omega) hd⟩

/-- A node's radius is finite. -/
theorem node_radius {dims rr : Nat} {p : TP} {l f : VB.T TP} (h : VB.NodeOk (vsq dims) p rr l f) : Fw rr ∧ 0 ≤ vl rr := by
  by_cases h1 : 1 + l.pts.length + f.pts.length = 1
  · rw [h.1 h1]
    exact ⟨is_zero.1, by rw [is_zero.2]; exact Rat.le_refl⟩
  · obtain ⟨_, s, hd, _⟩ := h.2 (by omega)
    exact ⟨hd.1, hd.2.1⟩

theorem over_far {dims rr d r u : Nat} {p q : TP} {l f : VB.T TP} (h : VB.NodeOk (vsq dims) p rr l f) (hd : dims ≤ 4) (hf : ∀ x ∈ f.pts, x.xs.length = dims ∧ x.Gr) (hp : p.xs.length = dims ∧ p.Gr) (hq : q.xs.length = dims ∧ q.Gr) (hdd : Dst d (vsq dims q p)) (fr : Fw r) (r0 : 0 ≤ vl r) (r1 : vl r ≤ 8192)
    (hu : Ieee.double.add d r = some u) (hb : (FloatKind.f64.format.order u rr == some .gt || FloatKind.f64.format.order u rr == some .eq) = false) : ∀ x ∈ f.pts, ∀ dx, Dst dx (vsq dims q x) → vl r ≤ vl dx + 1 / 4294967296 := by
  intro x hx dx hdx
  have hpos : 0 < f.pts.length := List.length_pos_of_mem hx
  obtain ⟨_, s, hR, _, hs, _⟩ := h.2 (by omega)
  obtain ⟨m, e1, e2⟩ := sqx_tri p.xs x.xs q.xs dims
  have hsx := hs x hx
  refine prune_far hR hdd (vsq_bd3 hp hq hd) fr r0 r1 hu hb hdx (vsq_bd3 (hf x hx) hq hd) (m := m) ?_ ?_
  · unfold vsq at *
    rw [sqx_comm q.xs x.xs, sqx_comm q.xs p.xs, ← e1]; exact hsx
  · unfold vsq
    rw [sqx_comm q.xs x.xs, sqx_comm q.xs p.xs]; exact e2

theorem over_near {dims rr d r u : Nat} {p q : TP} {l f : VB.T TP} (h : VB.NodeOk (vsq dims) p rr l f) (hd : dims ≤ 4) (hl : ∀ x ∈ l.pts, x.xs.length = dims ∧ x.Gr) (hf : ∀ x ∈ f.pts, x.xs.length = dims ∧ x.Gr) (hp : p.xs.length = dims ∧ p.Gr) (hq : q.xs.length = dims ∧ q.Gr) (hdd : Dst d (vsq dims q p)) (fr : Fw r) (r0 : 0 ≤ vl r) (r1 : vl r ≤ 8192)
    (hu : Ieee.double.sub d r = some u) (hb : (FloatKind.f64.format.order u rr == some .lt || FloatKind.f64.format.order u rr == some .eq) = false) : ∀ x ∈ l.pts, ∀ dx, Dst dx (vsq dims q x) → vl r ≤ vl dx + 1 / 4294967296 := by
  intro x hx dx hdx
  have hpos : 0 < l.pts.length := List.length_pos_of_mem hx
  obtain ⟨_, s, hR, ⟨y, hy, ey⟩, _, hs⟩ := h.2 (by omega)
  obtain ⟨m, e1, e2⟩ := sqx_tri q.xs p.xs x.xs dims
  have hsx := hs x hx
  have hsb : 0 ≤ s ∧ s ≤ 33554432 := by rw [← ey]; exact vsq_bd3 (hf y hy) hp hd
  have hb0 := (vsq_bd3 (hl x hx) hq hd).1
  refine prune_near hR hsb hdd (vsq_bd3 hp hq hd) fr r0 r1 hu hb hdx (vsq_bd3 (hl x hx) hq hd) (m := m) ?_ ?_
  · unfold vsq at *
    omega
  · have h3 := Int.mul_le_mul_of_nonneg_left hsx hb0
    have h4 : sqx p.xs x.xs dims * sqx q.xs x.xs dims = vsq dims q x * vsq dims p x := by unfold vsq; rw [Int.mul_comm]
    rw [h4] at e2
    omega

/-- What a look at a side tells. -/
theorem NS.visit {w w' : World} {dims δ r ra : Nat} {q : TP} {all vis : List TP} {t : VT} {nv na : Value} (h : NS w dims q all vis δ nv r) (hm : Mod (fun _ => False) w w') (hs : ∀ p ∈ t.pts, p ∈ all) (k : (t = .nil ∧ ra = INFB) ∨ NS w' dims q t.pts t.pts r na ra) :
    ∃ b, (FloatKind.f64.format.order ra r == some .lt) = b ∧ (b = true → NS w' dims q all (vis ++ t.pts) δ na ra) ∧ (b = false → NS w' dims q all (vis ++ t.pts) δ nv r) := by
  have h' := h.mod hm
  rcases k with ⟨rfl, rfl⟩ | k
  · refine ⟨false, inf_lt h.fw, (fun e => by cases e), fun _ => ?_⟩
    rw [show VT.nil.pts = [] from rfl, List.append_nil]
    exact h'
  · by_cases hlt : vl ra < vl r
    · exact ⟨true, by rw [or_lt k.fw h.fw, decide_eq_true hlt], fun _ => h'.better k hs hlt, (fun e => by cases e)⟩
    · exact ⟨false, by rw [or_lt k.fw h.fw, decide_eq_false hlt], (fun e => by cases e), fun _ => h'.same k hlt⟩

theorem wd_of {w : World} {dims δ r : Nat} {q : TP} {all vis : List TP} {nv : Value} (h : NS w dims q all vis δ nv r) : Wd r := .inr ⟨h.fw, h.nn⟩

theorem add_some {d r : Nat} (hd : Fw d) (d0 : 0 ≤ vl d) (d1 : vl d ≤ 8192) (hr : Fw r) (r0 : 0 ≤ vl r) (r1 : vl r ≤ 8192) : ∃ u, Ieee.double.add d r = some u ∧ ∀ (P : Program) (T : TypeId) (w : World), (binOp .add T (.float .f64 d) (.float .f64 r)).run P w = .ok (.float .f64 u) w := by
  obtain ⟨u, hu, _⟩ := add_ok hd hr (by rw [Rat.abs_of_nonneg (by grind)]; exact big_p2 (by grind))
  exact ⟨u, hu, fun P T w => run_float_arith w .add T .f64 _ _ u hu⟩

theorem sub_some {d r : Nat} (hd : Fw d) (d0 : 0 ≤ vl d) (d1 : vl d ≤ 8192) (hr : Fw r) (r0 : 0 ≤ vl r) (r1 : vl r ≤ 8192) : ∃ u, Ieee.double.sub d r = some u ∧ ∀ (P : Program) (T : TypeId) (w : World), (binOp .sub T (.float .f64 d) (.float .f64 r)).run P w = .ok (.float .f64 u) w := by
  have habs : (vl d - vl r).abs ≤ 16384 := abs_le_iff.2 (by constructor <;> grind)
  obtain ⟨u, hu, _⟩ := sub_ok hd hr (big_p2 (by grind))
  exact ⟨u, hu, fun P T w => run_float_arith w .sub T .f64 _ _ u hu⟩

set_option maxRecDepth 100000 in
set_option maxHeartbeats 16000000 in
theorem vsearch_at (dims : Nat) (hdm : 0 < dims ∧ dims ≤ 4) (q : TP) (hqg : q.Gr) (vt : VT) :
    ∀ (w : World) (v : Value) (δ : Nat), vt.In w v → q.Ok w dims → (∀ p ∈ vt.pts, p.Ok w dims ∧ p.Gr) → vt.T.Each (VB.NodeOk (vsq dims)) → Wd δ →
      Calls Tryd.prog 49 #[v, .iface 78 (.slice q.A dims q.c), .float .f64 δ] w (VsTold dims q vt δ w) := by
  have m1 := vmeth_dist
  have m2 := vahead_dist
  induction vt with
  | nil =>
    intro w v δ hI hq hP hE hx
    have hv : v = .pointer none := hI
    subst hv
    clear hI hq hP hE hx
    go_enter Tryd.func49, Tryd.ntmps49
    go_wp2_with (go_at_call 48; refine (inf_at _).mono ?_; rintro _ w1 ⟨rfl, rfl⟩)
    go_ret2
    exact ⟨_, INFB, rfl, ⟨_, rfl⟩, .inl ⟨rfl, rfl⟩, Mod.refl _ _⟩
  | node g p rr l f ihl ihf =>
    intro w v δ hI hq hP hE hx
    obtain ⟨hv, lv, fv, hb, hl, hf⟩ := hI
    subst hv
    obtain ⟨ql, rfl⟩ := hl.ptr
    obtain ⟨qf, rfl⟩ := hf.ptr
    have hpp := hP p (by simp [VT.pts])
    obtain ⟨hNO, hEl, hEf⟩ := hE
    have hrr := node_radius hNO
    have c0 : w.cell? ⟨g, 0, none⟩ = some (.iface 78 (.slice p.A dims p.c)) := by rw [← hpp.1.1]; exact hb.at (i := 0) rfl
    have c1 : w.cell? ⟨g, 1, none⟩ = some (.float .f64 rr) := hb.at (i := 1) rfl
    have c2 : w.cell? ⟨g, 2, none⟩ = some (.pointer ql) := hb.at (i := 2) rfl
    have c3 : w.cell? ⟨g, 3, none⟩ = some (.pointer qf) := hb.at (i := 3) rfl
    have hgl := hb.lt
    have CELL : Hid (∀ w1 : World, Mod (fun _ => False) w w1 → w1.cell? ⟨g, 1, none⟩ = some (.float .f64 rr) ∧ w1.cell? ⟨g, 2, none⟩ = some (.pointer ql) ∧ w1.cell? ⟨g, 3, none⟩ = some (.pointer qf)) := fun w1 hm => ⟨(hm.cell hgl (fun h => h)).trans c1, (hm.cell hgl (fun h => h)).trans c2, (hm.cell hgl (fun h => h)).trans c3⟩
    have hbd := vsq_bd2 hpp ⟨hq.1, hqg⟩ hdm.2
    have DST : Hid (∀ w1 : World, Mod (fun _ => False) w w1 → Calls Tryd.prog 111 #[.slice q.A dims q.c, .iface 78 (.slice p.A dims p.c)] w1 fun e w' => (∃ r, e = .returned (.float .f64 r) ∧ Dst r (vsq dims q p)) ∧ w1 = w') :=
      fun w1 hm => vdist_at w1 dims q p (hq.mod0 hm) (hpp.1.mod0 hm) hqg hpp.2 hdm.2
    have SL : Hid (∀ (w1 : World) (r : Nat), Mod (fun _ => False) w w1 → Wd r → Calls Tryd.prog 49 #[.pointer ql, .iface 78 (.slice q.A dims q.c), .float .f64 r] w1 (VsTold dims q l r w1)) :=
      fun w1 r hm hr => ihl w1 _ r (hl.mod hm (fun _ _ h => h)) (hq.mod0 hm) (fun x hx => ⟨(hP x (by simp [VT.pts, hx])).1.mod0 hm, (hP x (by simp [VT.pts, hx])).2⟩) hEl hr
    have SF : Hid (∀ (w1 : World) (r : Nat), Mod (fun _ => False) w w1 → Wd r → Calls Tryd.prog 49 #[.pointer qf, .iface 78 (.slice q.A dims q.c), .float .f64 r] w1 (VsTold dims q f r w1)) :=
      fun w1 r hm hr => ihf w1 _ r (hf.mod hm (fun _ _ h => h)) (hq.mod0 hm) (fun x hx => ⟨(hP x (by simp [VT.pts, hx])).1.mod0 hm, (hP x (by simp [VT.pts, hx])).2⟩) hEf hr
    have hlp : ∀ x ∈ l.T.pts, x.xs.length = dims ∧ x.Gr := fun x hx => by rw [← VT.pts_all] at hx; have h := hP x (by simp [VT.pts, hx]); exact ⟨h.1.1, h.2⟩
    have hfp : ∀ x ∈ f.T.pts, x.xs.length = dims ∧ x.Gr := fun x hx => by rw [← VT.pts_all] at hx; have h := hP x (by simp [VT.pts, hx]); exact ⟨h.1.1, h.2⟩
    have HO : Hid (VB.NodeOk (vsq dims) p rr l.T f.T ∧ (∀ x ∈ l.T.pts, x.xs.length = dims ∧ x.Gr) ∧ (∀ x ∈ f.T.pts, x.xs.length = dims ∧ x.Gr) ∧ (p.xs.length = dims ∧ p.Gr) ∧ (q.xs.length = dims ∧ q.Gr)) := ⟨hNO, hlp, hfp, ⟨hpp.1.1, hpp.2⟩, ⟨hq.1, hqg⟩⟩
    have HB := Lib.hid (And.intro hb (And.intro hbd (And.intro hrr hx)))
    obtain ⟨ALL, hALL⟩ : ∃ ALL, ALL = (VT.node g p rr l f).pts := ⟨_, rfl⟩
    have HAL : Hid (p ∈ ALL ∧ (∀ x ∈ l.pts, x ∈ ALL) ∧ (∀ x ∈ f.pts, x ∈ ALL) ∧ ALL = (VT.node g p rr l f).pts) := by
      rw [hALL]
      exact ⟨by simp [VT.pts], fun x hx => by simp [VT.pts, hx], fun x hx => by simp [VT.pts, hx], rfl⟩
    clear ihl ihf hq hpp hb hl hf hP hEl hEf hx hNO hlp hfp hbd hrr hALL c1 c2 c3
    go_enter Tryd.func49, Tryd.ntmps49
    go_wp2_with fail
    go_cut [8] from 21 to 30 (fun dv wx => ∃ d, dv = .float .f64 d ∧ Hid (Dst d (vsq dims q p) ∧ Mod (fun _ => False) w wx))
    case first =>
      go_region_held3 (fun w' => w'.cell? ⟨g, 0, none⟩ = some (.iface 78 (.slice p.A dims p.c))) (exact c0)
        (first | (go_at_call 111; refine (DST.out _ (by first | exact ((Mod.refl _ _).drewN _).drew | exact (Mod.refl _ _).drewN _ | exact (Mod.refl _ _).drew)).mono ?_; rintro _ _ ⟨⟨d, rfl, hd⟩, rfl⟩; have HD := Lib.hid hd; clear hd))
      all_goals
        go_wp2_with fail
        go_meet
        exact ⟨d, rfl, HD.out, by repeat' (first | with_reducible exact Mod.refl _ _ | with_reducible refine Mod.drew ?_ | with_reducible refine Mod.drewN ?_ _)⟩
    case rest =>
      obtain ⟨d, rfl, HC⟩ := hcut
      have x1 := (CELL.out _ HC.out.2).1
      have x2 := (CELL.out _ HC.out.2).2.1
      have x3 := (CELL.out _ HC.out.2).2.2
      clear c0
      go_upto_if 39 with (first | (go_at_call 60; refine (wmin_at δ d _ HB.out.2.2.2 HC.out.1.1 HC.out.1.2.1).mono ?_; rintro _ _ ⟨⟨r, rfl, hr⟩, rfl⟩; have HR := Lib.hid hr; clear hr))
      have HN0 : Hid (NS wc dims q ALL [p] δ (.pointer (some ⟨g, 0, none⟩)) r) := NS.start (HB.out.1.mod HC.out.2 (fun h => h)) HAL.out.1 HC.out.1 HB.out.2.1 HR.out
      cases hlt : (FloatKind.f64.format.order d rr == some .lt) with
      | true =>
        go_upto_if 52 with (first | (go_at_call 49; refine (SL.out _ r HC.out.2 (wd_of HN0.out)).mono ?_; rintro _ w3 ⟨na, ra, rfl, ⟨aa, rfl⟩, hk, hm3⟩; obtain ⟨b1, hb1, hv1, hv2⟩ := HN0.out.visit hm3 HAL.out.2.1 hk; have HV := Lib.hid (And.intro hv1 (And.intro hv2 (HC.out.2.trans hm3))); clear hk hm3 hv1 hv2))
        go_cut [2, 9] from 53 to 55 (fun dv nv wx => ∃ r1, dv = .float .f64 r1 ∧ (∃ a, nv = .pointer a) ∧ Hid (NS wx dims q ALL ([p] ++ l.pts) δ nv r1 ∧ Mod (fun _ => False) w wx))
        case first =>
          cases b1 with
          | true =>
            go_wp2_with fail
            go_meet
            exact ⟨ra, rfl, ⟨aa, rfl⟩, HV.out.1 (by trivial), HV.out.2.2⟩
          | false =>
            go_wp2_with fail
            go_meet
            exact ⟨r, rfl, ⟨_, rfl⟩, HV.out.2.1 (by trivial), HV.out.2.2⟩
        case rest =>
          obtain ⟨r1, rfl, ⟨a1, rfl⟩, HN1⟩ := hcut
          have y1 := (CELL.out _ HN1.out.2).1
          have y2 := (CELL.out _ HN1.out.2).2.1
          have y3 := (CELL.out _ HN1.out.2).2.2
          obtain ⟨u, hu, hrun⟩ := add_some HC.out.1.1 HC.out.1.2.1 (dst_big HC.out.1 HB.out.2.1.2 HB.out.2.1.1) HN1.out.1.fw HN1.out.1.nn HN1.out.1.big
          have HU := Lib.hid hu
          clear hu
          cases hcm : (FloatKind.f64.format.order u rr == some .gt || FloatKind.f64.format.order u rr == some .eq) with
          | false =>
            have HCM := Lib.hid hcm
            go_wp2_with fail
            go_ret2
            exact ⟨_, r1, rfl, ⟨_, rfl⟩, .inr (by rw [← HAL.out.2.2.2]; exact (HN1.out.1.over (sub := f.pts) (by rw [VT.pts_all]; exact over_far HO.out.1 hdm.2 HO.out.2.2.1 HO.out.2.2.2.1 HO.out.2.2.2.2 HC.out.1 HN1.out.1.fw HN1.out.1.nn HN1.out.1.big HU.out HCM.out)).vis (fun x hx => by rw [HAL.out.2.2.2] at hx; simp only [VT.pts, List.mem_append, List.mem_cons] at hx ⊢; rcases hx with h | h | h <;> simp [h])), HN1.out.2⟩
          | true =>
            go_upto_if 75 with (first | (go_at_call 49; refine (SF.out _ r1 HN1.out.2 (wd_of HN1.out.1)).mono ?_; rintro _ w4 ⟨nb, rb, rfl, ⟨ab, rfl⟩, hk, hm4⟩; obtain ⟨b2, hb2, hv1, hv2⟩ := HN1.out.1.visit hm4 HAL.out.2.2.1 hk; have HV := Lib.hid (And.intro hv1 (And.intro hv2 (HN1.out.2.trans hm4))); clear hk hm4 hv1 hv2))
            cases b2 with
            | true =>
              go_wp2_with fail
              go_ret2
              exact ⟨_, rb, rfl, ⟨_, rfl⟩, .inr (by rw [← HAL.out.2.2.2]; exact (HV.out.1 (by trivial)).vis (fun x hx => by rw [HAL.out.2.2.2] at hx; simp only [VT.pts, List.mem_append, List.mem_cons] at hx ⊢; rcases hx with h | h | h <;> simp [h])), HV.out.2.2⟩
            | false =>
              go_wp2_with fail
              go_ret2
              exact ⟨_, r1, rfl, ⟨_, rfl⟩, .inr (by rw [← HAL.out.2.2.2]; exact (HV.out.2.1 (by trivial)).vis (fun x hx => by rw [HAL.out.2.2.2] at hx; simp only [VT.pts, List.mem_append, List.mem_cons] at hx ⊢; rcases hx with h | h | h <;> simp [h])), HV.out.2.2⟩
      | false =>
        go_upto_if 90 with (first | (go_at_call 49; refine (SF.out _ r HC.out.2 (wd_of HN0.out)).mono ?_; rintro _ w3 ⟨na, ra, rfl, ⟨aa, rfl⟩, hk, hm3⟩; obtain ⟨b1, hb1, hv1, hv2⟩ := HN0.out.visit hm3 HAL.out.2.2.1 hk; have HV := Lib.hid (And.intro hv1 (And.intro hv2 (HC.out.2.trans hm3))); clear hk hm3 hv1 hv2))
        go_cut [2, 9] from 91 to 93 (fun dv nv wx => ∃ r1, dv = .float .f64 r1 ∧ (∃ a, nv = .pointer a) ∧ Hid (NS wx dims q ALL ([p] ++ f.pts) δ nv r1 ∧ Mod (fun _ => False) w wx))
        case first =>
          cases b1 with
          | true =>
            go_wp2_with fail
            go_meet
            exact ⟨ra, rfl, ⟨aa, rfl⟩, HV.out.1 (by trivial), HV.out.2.2⟩
          | false =>
            go_wp2_with fail
            go_meet
            exact ⟨r, rfl, ⟨_, rfl⟩, HV.out.2.1 (by trivial), HV.out.2.2⟩
        case rest =>
          obtain ⟨r1, rfl, ⟨a1, rfl⟩, HN1⟩ := hcut
          have y1 := (CELL.out _ HN1.out.2).1
          have y2 := (CELL.out _ HN1.out.2).2.1
          have y3 := (CELL.out _ HN1.out.2).2.2
          obtain ⟨u, hu, hrun⟩ := sub_some HC.out.1.1 HC.out.1.2.1 (dst_big HC.out.1 HB.out.2.1.2 HB.out.2.1.1) HN1.out.1.fw HN1.out.1.nn HN1.out.1.big
          have HU := Lib.hid hu
          clear hu
          cases hcm : (FloatKind.f64.format.order u rr == some .lt || FloatKind.f64.format.order u rr == some .eq) with
          | false =>
            have HCM := Lib.hid hcm
            go_wp2_with fail
            go_ret2
            exact ⟨_, r1, rfl, ⟨_, rfl⟩, .inr (by rw [← HAL.out.2.2.2]; exact (HN1.out.1.over (sub := l.pts) (by rw [VT.pts_all]; exact over_near HO.out.1 hdm.2 HO.out.2.1 HO.out.2.2.1 HO.out.2.2.2.1 HO.out.2.2.2.2 HC.out.1 HN1.out.1.fw HN1.out.1.nn HN1.out.1.big HU.out HCM.out)).vis (fun x hx => by rw [HAL.out.2.2.2] at hx; simp only [VT.pts, List.mem_append, List.mem_cons] at hx ⊢; rcases hx with h | h | h <;> simp [h])), HN1.out.2⟩
          | true =>
            go_upto_if 113 with (first | (go_at_call 49; refine (SL.out _ r1 HN1.out.2 (wd_of HN1.out.1)).mono ?_; rintro _ w4 ⟨nb, rb, rfl, ⟨ab, rfl⟩, hk, hm4⟩; obtain ⟨b2, hb2, hv1, hv2⟩ := HN1.out.1.visit hm4 HAL.out.2.1 hk; have HV := Lib.hid (And.intro hv1 (And.intro hv2 (HN1.out.2.trans hm4))); clear hk hm4 hv1 hv2))
            cases b2 with
            | true =>
              go_wp2_with fail
              go_ret2
              exact ⟨_, rb, rfl, ⟨_, rfl⟩, .inr (by rw [← HAL.out.2.2.2]; exact (HV.out.1 (by trivial)).vis (fun x hx => by rw [HAL.out.2.2.2] at hx; simp only [VT.pts, List.mem_append, List.mem_cons] at hx ⊢; rcases hx with h | h | h <;> simp [h])), HV.out.2.2⟩
            | false =>
              go_wp2_with fail
              go_ret2
              exact ⟨_, r1, rfl, ⟨_, rfl⟩, .inr (by rw [← HAL.out.2.2.2]; exact (HV.out.2.1 (by trivial)).vis (fun x hx => by rw [HAL.out.2.2.2] at hx; simp only [VT.pts, List.mem_append, List.mem_cons] at hx ⊢; rcases hx with h | h | h <;> simp [h])), HV.out.2.2⟩
end Go.Proofs.YtpamoleocjdjiaaDoor

namespace Lox.VB
variable {α β : Type}
theorem node_map {f : α → β} {sq : α → α → Int} {sq' : β → β → Int} (h : ∀ a b, sq a b = sq' (f a) (f b)) {p : α} {r : Nat} {l g : T α} : NodeOk sq' (f p) r (l.map f) (g.map f) ↔ NodeOk sq p r l g := by
  unfold NodeOk
  rw [T.map_pts, T.map_pts, List.length_map, List.length_map]
  constructor
  · rintro ⟨h1, h2⟩
    refine ⟨h1, fun h0 => ?_⟩
    obtain ⟨a, s, b, ⟨x, hx, ex⟩, c, d⟩ := h2 h0
    obtain ⟨x', hx', rfl⟩ := List.mem_map.1 hx
    exact ⟨a, s, b, ⟨x', hx', by rw [h]; exact ex⟩, fun y hy => by rw [h]; exact c _ (List.mem_map_of_mem hy), fun y hy => by rw [h]; exact d _ (List.mem_map_of_mem hy)⟩
  · rintro ⟨h1, h2⟩
    refine ⟨h1, fun h0 => ?_⟩
    obtain ⟨a, s, b, ⟨x, hx, ex⟩, c, d⟩ := h2 h0
    refine ⟨a, s, b, ⟨f x, List.mem_map_of_mem hx, by rw [← h]; exact ex⟩, fun y hy => ?_, fun y hy => ?_⟩
    · obtain ⟨y', hy', rfl⟩ := List.mem_map.1 hy
      rw [← h]; exact c y' hy'
    · obtain ⟨y', hy', rfl⟩ := List.mem_map.1 hy
      rw [← h]; exact d y' hy'

theorem each_map {f : α → β} {sq : α → α → Int} {sq' : β → β → Int} (h : ∀ a b, sq a b = sq' (f a) (f b)) : ∀ t : T α, (t.map f).Each (NodeOk sq') ↔ t.Each (NodeOk sq) := by
  intro t
  induction t with
  | nil => exact Iff.rfl
  | node p r l g ihl ihg => simp only [T.map, T.Each, ihl, ihg, node_map h]
end Lox.VB
namespace Go.Proofs.YtpamoleocjdjiaaDoor
open Go.RowKit Lox
set_option linter.unusedVariables false
attribute [local go_sem] run_store_flt run_store_fn
attribute [local go_sem ↓] Go.wp_at_zero Go.wp_at_succ

theorem sl_set {w : World} {A : Option Addr} {n : Nat} {xs : List Value} (h : Sl w A n 1 xs) {a : Addr} (hne : ∀ b o, A = some ⟨b, o, none⟩ → b ≠ a.block) (u : Value) : Sl (w.setCell a u) A n 1 xs := by
  refine ⟨h.1, fun h0 => ?_⟩
  obtain ⟨b, o, e, hc⟩ := h.2 h0
  exact ⟨b, o, e, fun j v hv => (World.cell?_of_block (w := w) (Below.heap_setCell _ _ _ _ (hne b o e))).trans (hc j v hv)⟩

theorem vsame_each {vt vt' : VT} {dims : Nat} (h : vt'.T.map TP.xs = vt.T.map TP.xs) (ho : vt.T.Each (VB.NodeOk (vsq dims))) : vt'.T.Each (VB.NodeOk (vsq dims)) := by
  have hx : ∀ t : VB.T TP, (t.map TP.xs).Each (VB.NodeOk fun xs ys => sqx xs ys dims) ↔ t.Each (VB.NodeOk (vsq dims)) :=
    VB.each_map (f := TP.xs) (sq := vsq dims) (sq' := fun xs ys => sqx xs ys dims) (fun a b => rfl)
  exact (hx _).1 (by rw [h]; exact (hx _).2 ho)

theorem vsame_pts {vt vt' : VT} (h : vt'.T.map TP.xs = vt.T.map TP.xs) : vt'.pts.map TP.xs = vt.pts.map TP.xs := by
  rw [VT.pts_all, VT.pts_all, ← VB.T.map_pts, h, VB.T.map_pts]

theorem vsame_nil {vt vt' : VT} (h : vt'.T.map TP.xs = vt.T.map TP.xs) (hn : vt ≠ .nil) : vt' ≠ .nil := by
  rintro rfl
  cases vt with
  | nil => exact hn rfl
  | node g p d l r => cases h

theorem vsame_gr {vt vt' : VT} (h : vt'.T.map TP.xs = vt.T.map TP.xs) (hg : ∀ p ∈ vt.pts, p.Gr) : ∀ p ∈ vt'.pts, p.Gr := by
  intro p hp
  have h1 : p.xs ∈ vt.pts.map TP.xs := by rw [← vsame_pts h]; exact List.mem_map_of_mem hp
  obtain ⟨p0, h2, h3⟩ := List.mem_map.1 h1
  have := hg p0 h2
  unfold TP.Gr TP.n at *
  rw [← h3]
  exact this

theorem gr_of' {q : TP} (h : ∀ x ∈ q.xs, ∃ n, Wh x n) : q.Gr := TP.gr_iff.2 h

/-- What vtree tells. -/
def VtrMade (dims n : Nat) (vt : VT) (w : World) (e : Ending) (w' : World) : Prop :=
  ∃ (tb : Nat) (v : Option Addr) (vt' : VT), e = .returned (.pointer (some ⟨tb, 0, none⟩)) ∧ Blk w' tb 67 [.pointer v, .int .i64 n] ∧ vt'.In w' (.pointer v) ∧ vt'.T.map TP.xs = vt.T.map TP.xs ∧ (∀ p ∈ vt'.pts, p.Ok w' dims) ∧ Mod (fun _ => False) w w'

set_option maxHeartbeats 1000000 in
theorem vtree_at (A : Option Addr) (c n dims B : Nat) (rs : List VR) (hdm : 0 < dims ∧ dims ≤ 4) (hn : n = rs.length) (vt : VT) (h0 : vt ≠ .nil) (w : World) (hK : VS B w dims (.slice A n c) rs) (hS : VSeg rs vt 0) :
    Calls Tryd.prog 35 #[.slice A n c, .int .i64 0] w (VtrMade dims n vt w) := by
  have hat : (0 : Int) = vt.at 0 := by
    cases vt with
    | nil => exact absurd rfl h0
    | node g p d l r => rfl
  have HK : Hid (Calls Tryd.prog 47 #[.slice A n c, .int .i64 0] w (VnMade dims vt w)) := vnode_at A c n dims B rs hdm hn vt 0 0 w hat hK hS
  clear hK hS hn hat h0
  go_enter Tryd.func35, Tryd.ntmps35
  go_wp2_with (go_at_call 47; refine HK.out.mono ?_; rintro _ w1 ⟨v, vt', rfl, h1, h2, h3, h4, h5⟩; obtain ⟨q, rfl⟩ := h1.ptr; have HT := Lib.hid (And.intro h1 (And.intro h2 (And.intro h3 (And.intro h4 h5)))); clear h1 h2 h3 h4 h5)
  go_ret
  obtain ⟨h1, h2, h3, h4, h5⟩ := HT.out
  exact ⟨_, q, vt', rfl, Blk.new' _ _ _, h1.mod ((Mod.refl _ _).alloc _) (fun _ _ h => h), h2, fun p hp => (h4 p hp).1.mod0 ((Mod.refl _ _).alloc _), h5.alloc _⟩

/-- What Nearest tells. -/
def VnrTold (dims : Nat) (q : TP) (vt : VT) (w : World) (e : Ending) (w' : World) : Prop :=
  ∃ (p : TP) (r : Nat), e = .returned (.tuple #[.iface 78 (.slice p.A dims p.c), .float .f64 r]) ∧ p ∈ vt.pts ∧ Dst r (vsq dims q p) ∧ (∀ x ∈ vt.pts, ∀ dx, Dst dx (vsq dims q x) → vl r ≤ vl dx + 1 / 4294967296) ∧ Mod (fun _ => False) w w'

set_option maxHeartbeats 4000000 in
theorem vnearest_at (dims tb : Nat) (n : Int) (v : Option Addr) (hdm : 0 < dims ∧ dims ≤ 4) (q : TP) (hqg : q.Gr) (vt : VT) (w : World) (ht : Blk w tb 67 [.pointer v, .int .i64 n]) (hI : vt.In w (.pointer v)) (hq : q.Ok w dims) (hP : ∀ p ∈ vt.pts, p.Ok w dims ∧ p.Gr) (he : vt.T.Each (VB.NodeOk (vsq dims))) (hn : vt ≠ .nil) :
    Calls Tryd.prog 36 #[.pointer (some ⟨tb, 0, none⟩), .iface 78 (.slice q.A dims q.c)] w (VnrTold dims q vt w) := by
  obtain ⟨g, rfl⟩ : ∃ g, v = some ⟨g, 0, none⟩ := by
    cases vt with
    | nil => exact absurd rfl hn
    | node g p d l r => exact ⟨g, by have := hI.1; injection this⟩
  have c0 := ht.at (i := 0) rfl
  have SR : Hid (∀ w1 : World, Mod (fun _ => False) w w1 → Calls Tryd.prog 49 #[.pointer (some ⟨g, 0, none⟩), .iface 78 (.slice q.A dims q.c), .float .f64 INFB] w1 fun e w' => ∃ (g' r : Nat) (p : TP), e = .returned (.tuple #[.pointer (some ⟨g', 0, none⟩), .float .f64 r]) ∧ w'.cell? ⟨g', 0, none⟩ = some (.iface 78 (.slice p.A dims p.c)) ∧ Hid (p ∈ vt.pts ∧ Dst r (vsq dims q p) ∧ (∀ x ∈ vt.pts, ∀ dx, Dst dx (vsq dims q x) → vl r ≤ vl dx + 1 / 4294967296)) ∧ Mod (fun _ => False) w1 w') := by
    intro w1 hm
    refine (vsearch_at dims hdm q hqg vt w1 _ INFB (hI.mod hm (fun _ _ h => h)) (hq.mod0 hm) (fun p hp => ⟨(hP p hp).1.mod0 hm, (hP p hp).2⟩) he (.inl rfl)).mono ?_
    rintro e w2 ⟨nv, r, rfl, -, hk, hm2⟩
    rcases hk with ⟨h, -⟩ | hk
    · exact absurd h hn
    · obtain ⟨p, hp, hd, g', rr, lv, fv, rfl, hb⟩ := hk.is (.inl rfl)
      refine ⟨g', r, p, rfl, ?_, ⟨hp, hd, hk.seen⟩, hm2⟩
      rw [← (hP p hp).1.1]
      exact hb.at (i := 0) rfl
  have hlt := ht.lt
  clear ht hI hq hP he hn
  go_enter Tryd.func36, Tryd.ntmps36
  go_wp2_with fail
  go_region_held3 (fun w' => w'.cell? ⟨tb, 0, none⟩ = some (.pointer (some ⟨g, 0, none⟩))) (first | exact c0 | exact (hm2.cell hlt (fun h => h)).trans c0)
    (first | (go_at_call 48; refine (inf_at _).mono ?_; rintro _ w1 ⟨rfl, rfl⟩) | (go_at_call 49; refine (SR.out _ (by first | exact ((Mod.refl _ _).drewN _).drew | exact (Mod.refl _ _).drewN _)).mono ?_; rintro _ w2 ⟨g', r, p, rfl, k0, hr, hm2⟩))
  have HM := Lib.hid (And.intro hr.out hm2)
  clear hr hm2
  go_wp2_with fail
  go_ret2
  exact ⟨p, r, rfl, HM.out.1.1, HM.out.1.2.1, HM.out.1.2.2, (by first | exact (((Mod.refl _ _).drewN _).drew).trans HM.out.2 | exact ((Mod.refl _ _).drewN _).trans HM.out.2 | exact HM.out.2)⟩
end Go.Proofs.YtpamoleocjdjiaaDoor

namespace Go.Proofs.YtpamoleocjdjiaaDoor
open Go.RowKit Lox
set_option linter.unusedVariables false
attribute [local go_sem] run_store_flt run_store_fn
attribute [local go_sem ↓] Go.wp_at_zero Go.wp_at_succ

theorem catch_idle_vn (p q : Addr) (w : World) :
    CallsD Tryd.prog 34 #[.pointer (some p), .pointer (some q)] .returning w fun e u' w' => e = .returned (.tuple #[]) ∧ u' = .returning ∧ w' = w := by
  refine callsD_of_wpS Tryd.func34 rfl fun c₀ cs hu => ?_
  apply wpS_seq
  apply wpS_region
  simp [wpOpsS, go_sem, recoverD, hu, Tryd.ntmps34, Exit.thenS]
  refine wpS_cond (t := false) (by simp [Act.eval, Array.replicate]) ?_
  simp only [Bool.false_eq_true, if_false]
  refine wpS_of_wp (wp_skip ?_)
  cases c₀
  simp_all [bodyPostS, results, Tryd.results34]

theorem init_vn (w : World) (H : Nat) (hH : w.heap.size = H) : ∃ W, W = ((w.alloc (.cells #[.slice none 0 0, .float .f64 0] 43)).alloc (.cells #[.bool false] 4)) ∧ W.heap.size = H + 2 ∧ Mod (fun _ => False) w W ∧
    Blk W H 43 [.slice none 0 0, .float .f64 0] ∧ Blk W (H + 1) 4 [.bool false] := by
  have hs : ∀ (w : World) (o : Obj) (k : Nat), w.heap.size = k → (w.alloc o).heap.size = k + 1 := fun w o k h => by rw [World.size_alloc, h]
  have s1 := hs w (.cells #[.slice none 0 0, .float .f64 0] 43) H hH
  have s2 := hs _ (.cells #[.bool false] 4) _ s1
  have nb : ∀ (w : World) (k : Nat) (c : Array Value) (T : TypeId), w.heap.size = k → Blk (w.alloc (.cells c T)) k T c.toList := fun w k c T h => by subst h; exact Blk.new' w c T
  refine ⟨_, rfl, s2, ((Mod.refl _ _).alloc _).alloc _, ?_, ?_⟩
  · exact (nb w H _ _ hH).alloc _
  · exact nb _ _ _ _ s1

/-- What VNearest tells. -/
def VnrTold2 (dims : Nat) (qx : List Nat) (pts : List (List Nat)) (w : World) (e : Ending) (w' : World) : Prop :=
  ∃ (A : Option Addr) (c : Nat) (xs : List Nat) (r : Nat), e = .returned (.tuple #[.agg #[.slice A dims c, .float .f64 r], .bool true]) ∧ Sl w' A dims 1 (flts xs) ∧ xs ∈ pts ∧ Dst r (sqx qx xs dims) ∧ (∀ y ∈ pts, ∀ dx, Dst dx (sqx qx y dims) → vl r ≤ vl dx + 1 / 4294967296) ∧ (∀ b o, A = some ⟨b, o, none⟩ → w.heap.size ≤ b) ∧ Mod (fun _ => False) w w'

set_option maxRecDepth 100000 in
set_option maxHeartbeats 8000000 in
theorem vnearest2_at (A Q : Option Addr) (c n cq dims B : Nat) (qx : List Nat) (rs : List VR) (vt : VT) (w : World) (hdm : 0 < dims ∧ dims ≤ 4) (hn : n = rs.length) (h0 : vt ≠ .nil) (hK : VS B w dims (.slice A n c) rs) (hS : VSeg rs vt 0)
    (hq : Sl w Q dims 1 (flts qx)) (hqg : ∀ x ∈ qx, ∃ n, Wh x n) (hP : ∀ p ∈ vt.pts, p.xs.length = dims ∧ p.Gr) (he : vt.T.Each (VB.NodeOk (vsq dims))) :
    Calls Tryd.prog 16 #[.slice A n c, .slice Q dims cq] w (VnrTold2 dims qx (vt.pts.map TP.xs) w) := by
  have hmf : ∀ (fn : Fn) (first cap : Array Value) (w : World), (Instr.makeFunc fn first cap).run Tryd.prog w = .ok (.func fn first cap) w := fun _ _ _ _ => rfl
  have hta := run_assert_vp
  obtain ⟨H, hH⟩ : ∃ H, w.heap.size = H := ⟨_, rfl⟩
  obtain ⟨W3, eW3, z3, m3, q0, q1⟩ := init_vn w H hH
  have hqxl : qx.length = dims := by have := hq.1; simpa [flts] using this
  have KT : Hid (Calls Tryd.prog 35 #[.slice A n c, .int .i64 0] W3 (VtrMade dims n vt W3)) := vtree_at A c n dims B rs hdm hn vt h0 W3 (hK.mod m3) hS
  have H3 : Hid (W3.heap.size = H + 2 ∧ Mod (fun _ => False) w W3 ∧ Blk W3 H 43 [.slice none 0 0, .float .f64 0] ∧ Blk W3 (H + 1) 4 [.bool false]) := ⟨z3, m3, q0, q1⟩
  have HEW := Lib.hid eW3
  have HP := Lib.hid (And.intro hq (And.intro hqg (And.intro hP (And.intro he (And.intro h0 hqxl)))))
  clear hK hS hn h0 hq hqg hP he z3 m3 q0 q1 eW3 hqxl
  go_enter_defers Tryd.func16, Tryd.ntmps16
  have tok1 : True := trivial
  go_wp2_with (first
    | (go_at_call 35; rw [← HEW.out]; refine KT.out.mono ?_; rintro _ w4 ⟨tb, v, vt', rfl, t1, t2, t3, t4, t5⟩; have H4 := Lib.hid (And.intro t1 (And.intro t2 (And.intro t3 (And.intro t4 t5)))); clear t1 t2 t3 t4 t5)
    | (go_at_call 37; have _t := tok1; clear _t tok1; refine (floats_any Q dims cq qx _ (HP.out.1.mod (H3.out.2.1.trans H4.out.2.2.2.2)) (by omega) hdm.1).mono ?_; rintro _ w5 ⟨Q2, cq2, rfl, f1, f2, f3⟩; have H5 := Lib.hid (And.intro f1 (And.intro f2 f3)); clear f1 f2 f3)
    | (go_at_call 36; refine (vnearest_at dims tb n v hdm ⟨Q2, cq2, qx⟩ (gr_of' HP.out.2.1) vt' w5 (H4.out.1.mod H5.out.2.1 (fun h => h)) (H4.out.2.1.mod H5.out.2.1 (fun _ _ h => h)) ⟨HP.out.2.2.2.2.2, by show Sl w5 Q2 qx.length 1 _; rw [HP.out.2.2.2.2.2]; exact H5.out.1⟩ (fun p hp => ⟨(H4.out.2.2.2.1 p hp).mod0 H5.out.2.1, vsame_gr H4.out.2.2.1 (fun p hp => (HP.out.2.2.1 p hp).2) p hp⟩) (vsame_each H4.out.2.2.1 HP.out.2.2.2.1) (vsame_nil H4.out.2.2.1 HP.out.2.2.2.2.1)).mono ?_; rintro _ w6 ⟨p, r, rfl, n1, n2, n3, n4⟩; have H6 := Lib.hid (And.intro n1 (And.intro n2 (And.intro n3 n4))); clear n1 n2 n3 n4)
    | (go_at_call 37; refine (floats_any p.A dims p.c p.xs _ (by have h := (H4.out.2.2.2.1 p H6.out.1).mod0 (H5.out.2.1.trans H6.out.2.2.2); have h2 := h.2; rw [h.1] at h2; exact h2) (by omega) hdm.1).mono ?_; rintro _ w7 ⟨A7, c7, rfl, g1, g2, g3⟩; have hm7 : Mod (fun _ => False) W3 w7 := ((H4.out.2.2.2.2.trans H5.out.2.1).trans H6.out.2.2.2).trans g2; have b0 := H3.out.2.2.1.mod hm7 (fun h => h); have b1 := H3.out.2.2.2.mod hm7 (fun h => h); have y0 := b0.at (i := 0) rfl; have y1 := b0.at (i := 1) rfl; have yb := b1.at (i := 0) rfl; have z0 := b0.frozen 0; have z1 := b0.frozen 1; have zb := b1.frozen 0; have H7 := Lib.hid (And.intro g1 (And.intro g2 (And.intro g3 (And.intro hm7 (And.intro b0 b1))))); clear g1 g2 g3 hm7 b0 b1))
  obtain ⟨W8, eW8⟩ : ∃ W8, W8 = ((w7.setCell ⟨H, 0, none⟩ (.slice A7 dims c7)).setCell ⟨H, 1, none⟩ (.float .f64 r)).setCell ⟨H + 1, 0, none⟩ (.bool true) := ⟨_, rfl⟩
  rw [← eW8]
  obtain ⟨g1, g2, g3, g4, g5, g6⟩ := H7.out
  have s7 : H + 2 ≤ w6.heap.size := by
    have h1 := ((H4.out.2.2.2.2.trans H5.out.2.1).trans H6.out.2.2.2).size
    have h2 := H3.out.1
    omega
  have b0 : Blk W8 H 43 [.slice A7 dims c7, .float .f64 r] := by
    rw [eW8]
    exact ((g5.set 0 (.slice A7 dims c7)).set 1 (.float .f64 r)).other (a := ⟨H + 1, 0, none⟩) (.bool true) (by show H + 1 ≠ H; omega)
  have b1 : Blk W8 (H + 1) 4 [.bool true] := by
    rw [eW8]
    exact ((g6.other (a := ⟨H, 0, none⟩) (.slice A7 dims c7) (by show H ≠ H + 1; omega)).other (a := ⟨H, 1, none⟩) (.float .f64 r) (by show H ≠ H + 1; omega)).set 0 (.bool true)
  have hm8 : Mod (fun _ => False) w W8 := by
    rw [eW8]
    exact (((H3.out.2.1.trans g4).set (p := ⟨H, 0, none⟩) (.inr (by show w.heap.size ≤ H; omega)) _).set (p := ⟨H, 1, none⟩) (.inr (by show w.heap.size ≤ H; omega)) _).set (p := ⟨H + 1, 0, none⟩) (.inr (by show w.heap.size ≤ H + 1; omega)) _
  have hs8 : Sl W8 A7 dims 1 (flts p.xs) := by
    rw [eW8]
    exact sl_set (sl_set (sl_set g1 (fun b o e => by have := g3 b o e; show b ≠ H; omega) _) (fun b o e => by have := g3 b o e; show b ≠ H; omega) _) (fun b o e => by have := g3 b o e; show b ≠ H + 1; omega) _
  have hfin : VnrTold2 dims qx (vt.pts.map TP.xs) w (.returned (.tuple #[.agg #[.slice A7 dims c7, .float .f64 r], .bool true])) W8 := by
    refine ⟨A7, c7, p.xs, r, rfl, hs8, ?_, H6.out.2.1, fun y hy dx hdx => ?_, fun b o e => by have := g3 b o e; omega, hm8⟩
    · rw [← vsame_pts H4.out.2.2.1]; exact List.mem_map_of_mem H6.out.1
    · rw [← vsame_pts H4.out.2.2.1] at hy
      obtain ⟨y', hy', rfl⟩ := List.mem_map.1 hy
      exact H6.out.2.2.1 y' hy' dx hdx
  have r0 := b0.at (i := 0) rfl
  have r1 := b0.at (i := 1) rfl
  have r2 := b1.at (i := 0) rfl
  have HFIN := Lib.hid hfin
  have HRR := Lib.hid (And.intro r0 (And.intro r1 r2))
  clear hfin r0 r1 r2 eW8 b0 b1 hm8 hs8 g1 g2 g3 g4 g5 g6 y0 y1 yb z0 z1 zb
  refine leaves_cons (f := 34) (args := #[.pointer (some ⟨H, 0, none⟩), .pointer (some ⟨H + 1, 0, none⟩)]) (by simp) (by simp [go_sem]) ?_
  refine (catch_idle_vn ⟨H, 0, none⟩ ⟨H + 1, 0, none⟩ _).mono ?_
  rintro e u' w'' ⟨rfl, rfl, rfl⟩
  obtain ⟨r0, r1, r2⟩ := HRR.out
  simp [Leaves, settle, results, Tryd.results16, go_sem, r0, r1, r2]
  exact HFIN.out
end Go.Proofs.YtpamoleocjdjiaaDoor

namespace Go.Proofs.YtpamoleocjdjiaaDoor
open Go.RowKit Lox Go.Proofs.YtpamoleocjdjiaaDoor.W
set_option linter.unusedVariables false
attribute [local go_sem] run_store_flt run_store_fn

theorem notf {b : Bool} (h : (!b) = false) : b = true := by cases b with
  | true => rfl
  | false => cases h

/-- What was found is near enough, by the plain law. -/
def VnF (dims : Nat) (qx xs : List Nat) (r : Nat) (ps : List TP) : Prop :=
  ∃ vp : List TP, (vp.map TP.key).Perm (ps.map TP.key) ∧ (∀ p ∈ vp, p.xs.length = dims ∧ p.Gr) ∧ xs ∈ vp.map TP.xs ∧ Dst r (sqx qx xs dims) ∧ ∀ y ∈ vp.map TP.xs, ∀ dx, Dst dx (sqx qx y dims) → vl r ≤ vl dx + 1 / 4294967296

theorem VnF.key {dims r : Nat} {qx xs : List Nat} {ps : List TP} (h : VnF dims qx xs r ps) (A : Option Addr) (c : Nat) : TP.key ⟨A, c, xs⟩ ∈ ps.map TP.key := by
  obtain ⟨vp, hk, -, hx, -, -⟩ := h
  obtain ⟨p, hp, rfl⟩ := List.mem_map.1 hx
  exact hk.mem_iff.1 (List.mem_map.2 ⟨p, hp, rfl⟩)

theorem VnF.count {dims r : Nat} {qx xs : List Nat} {ps : List TP} (h : VnF dims qx xs r ps) (A : Option Addr) (c : Nat) : ∀ κ, (([(⟨A, c, xs⟩ : TP)]).map TP.key).count κ ≤ (ps.map TP.key).count κ := by
  intro κ
  have hk := h.key A c
  simp only [List.map_cons, List.map_nil, List.count_singleton]
  split
  · rename_i e
    rw [← LawfulBEq.eq_of_beq e]
    exact List.count_pos_iff.2 hk
  · exact Nat.zero_le _

theorem VnF.good {dims r : Nat} {qx xs : List Nat} {ps : List TP} (h : VnF dims qx xs r ps) (A : Option Addr) (c : Nat) : TP.Gr ⟨A, c, xs⟩ ∧ xs.length = dims := by
  obtain ⟨vp, -, hg, hx, -, -⟩ := h
  obtain ⟨p, hp, rfl⟩ := List.mem_map.1 hx
  obtain ⟨h1, h2⟩ := hg p hp
  exact ⟨gr_of' (TP.gr_iff.1 h2), h1⟩

/-- The first of the squares is near what was found. -/
theorem VnF.root {dims r n : Nat} {qx xs : List Nat} {ps : List TP} {ws : List Nat} (h : VnF dims qx xs r ps) (hqx : qx.length = dims) (hqg : ∀ x ∈ qx, ∃ n, Wh x n) (hd : dims ≤ 4) (h0 : 0 < n) (hl : ws.length = n) (hps : ∀ p ∈ ps, p.xs.length = dims ∧ p.Gr) (hup : Up ws) (hgn : ∀ y ∈ ws, Gn y) (hpm : (ws.map zv).Perm (ps.map fun p => sqx p.xs qx dims)) :
    ∃ y0, ws[0]? = some y0 ∧ RootNear r y0 ∧ ∀ r', Gd 0 r' (sqx xs qx dims) → RootBack r r' := by
  have hxg := (h.good none 0).1
  have hxl := (h.good none 0).2
  obtain ⟨vp, hk, hvg, hx, hr, hle⟩ := h
  have hb0 : 0 ≤ sqx qx xs dims := sqx_nn _ _ _
  have hb1 : sqx qx xs dims ≤ 33554432 := sqx_le10 qx xs hqg (TP.gr_iff.1 hxg) dims (by omega) (by omega) hd
  cases ws with
  | nil => simp at hl; omega
  | cons y0 ws =>
    refine ⟨y0, rfl, ?_, fun r' hg => rootback_of hr (by rw [sqx_comm]; exact hg) hb1 hb0⟩
    have hg := zv_gd (hgn y0 (by simp))
    have h1 : zv y0 ∈ (ps.map fun p => sqx p.xs qx dims) := hpm.mem_iff.1 (by simp)
    obtain ⟨p1, h2, h3⟩ := List.mem_map.1 h1
    obtain ⟨p2, h4, h5⟩ := List.mem_map.1 (hk.mem_iff.2 (List.mem_map.2 ⟨p1, h2, rfl⟩))
    have e2 : sqx qx p2.xs dims = zv y0 := by
      rw [sqx_cong (xs := qx) h5 dims (by rw [(hvg p2 h4).1]; exact Nat.le_refl _), sqx_comm]
      exact h3
    obtain ⟨p3, h6, h7⟩ := List.mem_map.1 hx
    obtain ⟨p4, h8, h9⟩ := List.mem_map.1 (hk.mem_iff.1 (List.mem_map.2 ⟨p3, h6, rfl⟩))
    have e4 : sqx qx p4.xs dims = sqx qx xs dims := by
      rw [← h7]
      exact sqx_cong (xs := qx) h9 dims (by rw [(hps p4 h8).1]; exact Nat.le_refl _)
    have h10 : sqx p4.xs qx dims ∈ ((y0 :: ws).map zv) := hpm.mem_iff.2 (List.mem_map.2 ⟨p4, h8, rfl⟩)
    obtain ⟨y, hy, h11⟩ := List.mem_map.1 h10
    have h12 : zv y0 ≤ zv y := by
      rcases List.mem_cons.1 hy with rfl | hy
      · exact Int.le_refl _
      · exact (List.pairwise_cons.1 hup).1 y hy
    have h13 : zv y0 ≤ sqx qx xs dims := by rw [← e4, sqx_comm, ← h11]; exact h12
    refine rootnear_of hr hg (fun t ht => ?_) h13 hb1 (by rw [← e2]; exact sqx_nn _ _ _)
    exact hle p2.xs (List.mem_map.2 ⟨p2, h4, rfl⟩) t (by rw [e2]; exact ht)

theorem GV.nearest {B dims n c : Nat} {A : Option Addr} {rs : List VR} {ps : List TP} {w W : World} (h : GV B w dims n A c rs ps) (hm : Mod (fun _ => False) w W) (h0 : 0 < n) (hd : 0 < dims ∧ dims ≤ 4) {Q : Option Addr} {cq : Nat} {qx : List Nat} (hq : Sl W Q dims 1 (flts qx)) (hqg : ∀ x ∈ qx, ∃ n, Wh x n) :
    Calls Tryd.prog 16 #[.slice A n c, .slice Q dims cq] W fun e w' => ∃ A7 c7 xs r, e = .returned (.tuple #[.agg #[.slice A7 dims c7, .float .f64 r], .bool true]) ∧ Sl w' A7 dims 1 (flts xs) ∧ VnF dims qx xs r ps ∧ Mod (fun _ => False) W w' := by
  obtain ⟨vt, hc, hS, hp, he, hk⟩ := h.root
  have hn := h.len
  refine (vnearest2_at A Q c n cq dims B qx rs vt W hd hn.symm (by rintro rfl; simp [VT.count] at hc; omega) (h.ks.mod hm) hS hq hqg hp he).mono ?_
  rintro e w' ⟨A7, c7, xs, r, rfl, k1, k2, k3, k4, -, k5⟩
  exact ⟨A7, c7, xs, r, rfl, k1, ⟨vt.pts, hk, hp, k2, k3, k4⟩, k5⟩

/-- What the guards let in. -/
def NvGood (ps : List TP) (qx : List Nat) (nq n : Nat) : Prop := (∀ p ∈ ps, p.xs.length = nq ∧ p.Gr) ∧ (∀ x ∈ qx, ∃ n, Wh x n) ∧ (0 < nq ∧ nq ≤ 4) ∧ n ≤ 120

theorem nv_some {w : World} {O Q : Option Addr} {c cq n nq : Nat} {ps : List TP} {qx : List Nat} (hx : RR.Ok w ⟨O, c, ps⟩) (hn : ps.length = n) (hQ : Sl w Q nq 1 (flts qx)) (hql : qx.length = nq) (h0 : 0 < n) (h1 : n ≤ 2147483647) (hq : nq ≤ 9223372036854775807) :
    Calls Tryd.prog 7 #[.int .i64 nq, .float .f64 4652218415073722368, .slice none 0 0, .slice (some ⟨w.heap.size + 1, 0, none⟩) 2 2] ((w.alloc (.cells #[.slice Q nq cq] 26)).alloc (.cells #[.slice O n c, .slice (some ⟨w.heap.size, 0, none⟩) 1 1] 22)) fun e w' => ((w.alloc (.cells #[.slice Q nq cq] 26)).alloc (.cells #[.slice O n c, .slice (some ⟨w.heap.size, 0, none⟩) 1 1] 22)) = w' ∧ ∃ b, e = .returned (.bool b) ∧ (b = true → NvGood ps qx nq n) := by
  subst hn hql
  have hm2 := ((Mod.refl (fun _ => False) w).alloc (.cells #[.slice Q qx.length cq] 26)).alloc (.cells #[.slice O ps.length c, .slice (some ⟨w.heap.size, 0, none⟩) 1 1] 22)
  have hb1 : Blk ((w.alloc (.cells #[.slice Q qx.length cq] 26)).alloc (.cells #[.slice O ps.length c, .slice (some ⟨w.heap.size, 0, none⟩) 1 1] 22)) w.heap.size 26 [.slice Q qx.length cq] := (Blk.new' w #[.slice Q qx.length cq] 26).alloc _
  have hb2 := Blk.new' (w.alloc (.cells #[.slice Q qx.length cq] 26)) #[.slice O ps.length c, .slice (some ⟨w.heap.size, 0, none⟩) 1 1] 22
  rw [World.size_alloc] at hb2
  refine (some_at _ none 2 2 0 0 qx.length [⟨O, c, ps⟩, ⟨some ⟨w.heap.size, 0, none⟩, 1, [⟨Q, cq, qx⟩]⟩] [] _ ⟨rfl, fun _ => ⟨w.heap.size + 1, 0, rfl, fun j u hu => ?_⟩⟩ (by omega) ?_ ⟨rfl, fun h => by omega⟩ (by omega)).mono ?_
  · rw [Nat.zero_add]
    exact hb2.at (by rw [← hu]; rfl)
  · intro z hz
    rcases List.mem_cons.1 hz with rfl | hz
    · exact ⟨hx.mod hm2, h1⟩
    · rw [List.mem_singleton.1 hz]
      refine ⟨⟨⟨rfl, fun _ => ⟨w.heap.size, 0, rfl, fun j u hu => ?_⟩⟩, fun p hp => ?_, by show 1 ≤ _; omega⟩, by show 1 ≤ _; omega⟩
      · rw [Nat.zero_add]
        exact hb1.at (by rw [← hu]; rfl)
      · rw [List.mem_singleton.1 hp]
        exact ⟨hQ.mod hm2, hq⟩
  · rintro e w' ⟨h3, b, h4, h5⟩
    refine ⟨h3, b, h4, fun hb => ?_⟩
    obtain ⟨k1, k2, k3, k4, k5⟩ := h5 hb
    obtain ⟨a1, a2⟩ := k1 _ (List.mem_cons_self ..)
    obtain ⟨a4, -⟩ := k1 _ (List.mem_cons_of_mem _ (List.mem_cons_self ..))
    refine ⟨fun p hp => ⟨by have := (a1 p hp).1; omega, TP.gr_of (a1 p hp).2⟩, fun x hx => (a4 _ (List.mem_cons_self ..)).2 x hx, by omega, by simp [many] at k3; omega⟩

theorem nv_squares {w W7 : World} {O Q : Option Addr} {c cq n nq r : Nat} {ps : List TP} {qx xs : List Nat} (hx : RR.Ok w ⟨O, c, ps⟩) (hn : ps.length = n) (h0 : 0 < n) (hQ : Sl w Q nq 1 (flts qx)) (hql : qx.length = nq) (hg : NvGood ps qx nq n) (h07 : Mod (fun _ => False) w W7) (hf : VnF nq qx xs r ps) :
    Hid (∀ W : World, Mod (fun _ => False) W7 W → Calls Tryd.prog 14 #[.slice O n c, .slice Q nq cq] W fun e w' => ∃ (vb vo cV y0 : Nat), e = .returned (.slice (some ⟨vb, vo, none⟩) n cV) ∧ w'.cell? ⟨vb, vo, none⟩ = some (.float .f64 y0) ∧ (1 : Int) ≤ cV ∧ cV ≤ 9223372036854775807 ∧ (RootNear r y0 ∧ ∀ r', Gd 0 r' (sqx xs qx nq) → RootBack r r') ∧ Mod (fun _ => False) W w') := by
  intro W hW
  have hb := hg.2.2.2
  refine (squares_at O n c nq ps ⟨Q, cq, qx⟩ W ⟨by have h := (hx.1.mod (h07.trans hW)); simp only at h; rw [hn] at h; exact h, fun p hp => ⟨(hx.2.1 p hp).mod (h07.trans hW), (hg.1 p hp).1⟩⟩ (fun p hp => (hg.1 p hp).2) ⟨hql, by show Sl W Q qx.length 1 _; rw [hql]; exact hQ.mod (h07.trans hW)⟩ (gr_of' hg.2.1) (by omega) hg.2.2.1.2).mono ?_
  rintro e w' ⟨V, cV, ws, rfl, s1, s2, s3, s4, s5, s6, s7⟩
  obtain ⟨vb, vo, rfl, hc⟩ := s1.2 h0
  have hwl : ws.length = n := by have := s1.1; simpa [flts] using this
  obtain ⟨y0, hy0, hg0⟩ := hf.root hql hg.2.1 hg.2.2.1.2 h0 hwl hg.1 s4 s5 s6
  exact ⟨vb, vo, cV, y0, rfl, hc 0 _ (flts_at hy0), by omega, s3, hg0, s7⟩

theorem nv_rooted {w w6 W7 : World} {O Q A7 : Option Addr} {c cq c7 n nq r : Nat} {ps : List TP} {qx xs : List Nat} (hx : RR.Ok w ⟨O, c, ps⟩) (hn : ps.length = n) (hQ : Sl w Q nq 1 (flts qx)) (hql : qx.length = nq) (hg : NvGood ps qx nq n) (h07 : Mod (fun _ => False) w W7) (h67 : Mod (fun _ => False) w6 W7) (h7 : Sl w6 A7 nq 1 (flts xs)) (hf : VnF nq qx xs r ps) :
    Hid (∀ (W : World) (fb vb vo cV y0 : Nat), Mod (fun _ => False) W7 W → Blk W fb 43 [.slice A7 nq c7, .float .f64 r] → W.cell? ⟨vb, vo, none⟩ = some (.float .f64 y0) → (RootNear r y0 ∧ ∀ r', Gd 0 r' (sqx xs qx nq) → RootBack r r') → Calls Tryd.prog 17 #[.slice (some ⟨fb, 0, none⟩) 1 1, .slice O n c, .slice Q nq cq, .slice (some ⟨vb, vo, none⟩) 1 cV] W fun e w' => e = .returned (.bool true) ∧ Mod (fun _ => False) W w') := by
  intro W fb vb vo cV y0 hW hb hc hy0
  obtain ⟨hgr, hxl⟩ := hf.good A7 c7
  have hb3 := hg.2.2.2
  refine rooted_at (some ⟨fb, 0, none⟩) O (some ⟨vb, vo, none⟩) 1 1 n c cV nq [(⟨A7, c7, xs⟩, r)] ps ⟨Q, cq, qx⟩ [y0] W ⟨rfl, fun _ => ⟨fb, 0, rfl, fun i x hi => ?_⟩⟩ (fun x hx => ?_) ⟨rfl, fun _ => ⟨vb, vo, rfl, fun j u hu => ?_⟩⟩ (fun i x y hi hj => ?_) ⟨by have h := (hx.1.mod (h07.trans hW)); simp only at h; rw [hn] at h; exact h, fun p hp => ⟨(hx.2.1 p hp).mod (h07.trans hW), (hg.1 p hp).1⟩⟩ (fun p hp => (hg.1 p hp).2) ⟨hql, by show Sl W Q qx.length 1 _; rw [hql]; exact hQ.mod (h07.trans hW)⟩ (gr_of' hg.2.1) (hf.count A7 c7) (by omega) hg.2.2.1.2
  · cases i with
    | zero =>
      simp only [List.getElem?_cons_zero, Option.some.injEq] at hi
      subst hi
      refine ⟨?_, hb.at (i := 1) rfl⟩
      show W.cell? ⟨fb, 0, none⟩ = some (.slice A7 xs.length c7)
      rw [hxl]
      exact hb.at (i := 0) rfl
    | succ i => simp at hi
  · rw [List.mem_singleton.1 hx]
    exact ⟨⟨by show Sl W A7 xs.length 1 _; rw [hxl]; exact h7.mod (h67.trans hW), by show xs.length ≤ _; have := hg.2.2.1.2; omega⟩, hxl, hgr⟩
  · cases j with
    | zero =>
      simp only [flts, List.map_cons, List.map_nil, List.getElem?_cons_zero, Option.some.injEq] at hu
      subst hu
      exact hc
    | succ j => simp [flts] at hu
  · cases i with
    | zero =>
      simp only [List.getElem?_cons_zero, Option.some.injEq] at hi hj
      subst hi hj
      exact hy0
    | succ i => simp at hi

set_option maxHeartbeats 4000000 in
/-- Where the looks at lengths say no, or there is no point, the law answers true at once. -/
theorem tvnear_long (O Q : Option Addr) (n c cq one two nq : Nat) (w : World) (FX : Hid (Calls Tryd.prog 6 #[.slice O n c] w fun e w' => ∃ b, e = .returned (.bool b) ∧ w = w' ∧ (b = true → 2147483647 < nq ∨ n = 0))) :
    Calls Tryd.prog 4 #[.slice O n c, .int .u64 one, .int .u64 two, .slice Q nq cq] w (TvYes w) := by
  by_cases hq : 2147483647 < nq
  · have FY : Hid (Calls Tryd.prog 6 #[.slice O n c] w fun e w' => ∃ b, e = .returned (.bool b) ∧ w = w') := FX.out.mono fun e w' ⟨b, h1, h2, _⟩ => ⟨b, h1, h2⟩
    have hdq : decide ((2147483647 : Int) < (nq : Int)) = true := decide_eq_true (by omega)
    clear FX
    go_enter Tryd.func4, Tryd.ntmps4
    go_wp2_with (go_at_call 6; refine FY.out.mono ?_; rintro _ w1 ⟨b1, rfl, rfl⟩)
    all_goals
      go_ret
      exact ⟨rfl, Mod.refl _ _⟩
  · have hdq : decide ((2147483647 : Int) < (nq : Int)) = false := decide_eq_false (by omega)
    by_cases hn : n = 0
    · subst hn
      have FY : Hid (Calls Tryd.prog 6 #[.slice O 0 c] w fun e w' => ∃ b, e = .returned (.bool b) ∧ w = w') := FX.out.mono fun e w' ⟨b, h1, h2, _⟩ => ⟨b, h1, h2⟩
      clear FX
      go_enter Tryd.func4, Tryd.ntmps4
      go_wp2_with (go_at_call 6; refine FY.out.mono ?_; rintro _ w1 ⟨b1, rfl, rfl⟩)
      all_goals
        go_ret
        exact ⟨rfl, Mod.refl _ _⟩
    · have FY : Hid (Calls Tryd.prog 6 #[.slice O n c] w fun e w' => e = .returned (.bool false) ∧ w = w') := FX.out.mono fun e w' ⟨b, h1, h2, h3⟩ => ⟨by cases b with
        | false => exact h1
        | true => rcases h3 rfl with h | h <;> omega, h2⟩
      clear FX
      go_enter Tryd.func4, Tryd.ntmps4
      go_wp2_with (go_at_call 6; refine FY.out.mono ?_; rintro _ w1 ⟨rfl, rfl⟩)
      all_goals
        go_ret
        exact ⟨rfl, Mod.refl _ _⟩

set_option maxRecDepth 100000 in
set_option maxHeartbeats 8000000 in
theorem tvnear_some (O Q : Option Addr) (n c cq one two nq : Nat) (ps : List TP) (qx : List Nat) (w : World) (hx : (RR.mk O c ps).Ok w) (hn : ps.length = n) (h0 : 0 < n) (hnb : n ≤ 2147483647) (hQ : Sl w Q nq 1 (flts qx)) (hnq : nq ≤ 2147483647) (h1 : one < 18446744073709551616) (h2 : two < 18446744073709551616) :
    Calls Tryd.prog 4 #[.slice O n c, .int .u64 one, .int .u64 two, .slice Q nq cq] w (TvYes w) := by
  have FX : Hid (Calls Tryd.prog 6 #[.slice O n c] w (FitsTold ⟨O, c, ps⟩ w)) := by
    show Calls _ _ _ _ _
    rw [← hn]
    exact fits4_any ⟨O, c, ps⟩ w hx
  have hql : qx.length = nq := by have := hQ.1; simpa [flts] using this
  have SM := Lib.hid (nv_some (cq := cq) hx hn hQ hql h0 hnb (by omega))
  have VBF : Hid (∀ W : World, Mod (fun _ => False) w W → NvGood ps qx nq n → Calls Tryd.prog 8 #[.slice O n c, .int .u64 (one : Int), .int .u64 (two : Int)] W (fun e w' => ∃ A5 c5 rs, e = .returned (.tuple #[.slice A5 n c5, .int .i64 (n : Int), .bool true]) ∧ GV W.heap.size w' nq n A5 c5 rs ps ∧ Mod (fun _ => False) W w')) := by
    intro W hW hg
    refine (vbuild2_at _ n c nq one two ps W ⟨by have h := hx.1.mod hW; simp only at h; rw [hn] at h; exact h, fun p hp => ⟨(hx.2.1 p hp).mod hW, (hg.1 p hp).1⟩⟩ (fun p hp => (hg.1 p hp).2) ⟨h0, by have := hg.2.2.2; omega⟩ ⟨hg.2.2.1.1, hg.2.2.1.2⟩ h1 h2).mono fun e w' hv => gv_of hn hg.1 hv
  have HX := Lib.hid (And.intro hx (And.intro hn (And.intro hQ (And.intro hql h0))))
  have hdq : decide ((2147483647 : Int) < (nq : Int)) = false := decide_eq_false (by omega)
  have hn0 : ((n : Int) == 0) = false := by
    have : (n : Int) ≠ 0 := by omega
    simpa using this
  have HI1 : Hid (n ≤ 2147483647) := hnb
  clear hx hn hQ hql h1 h2 hnb hnq h0
  go_enter Tryd.func4, Tryd.ntmps4
  go_wp2_with (first
    | (go_at_call 6; refine FX.out.mono ?_; rintro _ w1 ⟨b1, rfl, rfl, -⟩)
    | (go_at_call 7; refine SM.out.mono ?_; rintro _ w4 ⟨rfl, b3, rfl, hb3⟩; have HB3 := Lib.hid hb3; clear hb3)
    | (go_at_call 8; refine (VBF.out _ (((Mod.refl _ _).alloc _).alloc _) (HB3.out (notf (by assumption)))).mono ?_; rintro _ w5 ⟨A5, c5, rs, rfl, hV, hm5⟩; have HV := Lib.hid (And.intro hV ((((Mod.refl (fun _ => False) w).alloc _).alloc _).trans hm5)); clear hV hm5)
    | (go_at_call 16; refine (HV.out.1.nearest (Mod.refl _ _) HX.out.2.2.2.2 (HB3.out (notf (by assumption))).2.2.1 (HX.out.2.2.1.mod HV.out.2) (HB3.out (notf (by assumption))).2.1).mono ?_; rintro _ w6 ⟨A7, c7, xs, r, rfl, n1, n2, n3⟩; have H6 := Lib.hid (And.intro n1 (And.intro n2 n3)); clear n1 n2 n3))
  all_goals first
    | (go_ret; exact ⟨rfl, by first | exact Mod.refl _ _ | exact ((Mod.refl _ _).alloc _).alloc _⟩)
    | skip
  have hg := HB3.out (notf (by assumption))
  obtain ⟨o7, ho7⟩ : ∃ o7, o7 = Obj.cells #[.slice A7 nq c7, .float .f64 r] 43 := ⟨_, rfl⟩
  obtain ⟨W7, eW7⟩ : ∃ W7, W7 = w6.alloc o7 := ⟨_, rfl⟩
  have hm7 : Mod (fun _ => False) w W7 := by rw [eW7]; exact (HV.out.2.trans H6.out.2.2).alloc _
  have hm67 : Mod (fun _ => False) w6 W7 := by rw [eW7]; exact (Mod.refl _ _).alloc _
  have B7 : Blk W7 w6.heap.size 43 [.slice A7 nq c7, .float .f64 r] := by rw [eW7, ho7]; exact Blk.new' w6 _ _
  have SQF : Hid (∀ W : World, Mod (fun _ => False) W7 W → Calls Tryd.prog 14 #[.slice O n c, .slice Q nq cq] W fun e w' => ∃ (vb vo cV y0 : Nat), e = .returned (.slice (some ⟨vb, vo, none⟩) n cV) ∧ w'.cell? ⟨vb, vo, none⟩ = some (.float .f64 y0) ∧ (1 : Int) ≤ cV ∧ cV ≤ 9223372036854775807 ∧ (RootNear r y0 ∧ ∀ r', Gd 0 r' (sqx xs qx nq) → RootBack r r') ∧ Mod (fun _ => False) W w') :=
    nv_squares HX.out.1 HX.out.2.1 HX.out.2.2.2.2 HX.out.2.2.1 HX.out.2.2.2.1 hg hm7 H6.out.2.1
  have FDF : Hid (∀ (W : World) (fb vb vo cV y0 : Nat), Mod (fun _ => False) W7 W → Blk W fb 43 [.slice A7 nq c7, .float .f64 r] → W.cell? ⟨vb, vo, none⟩ = some (.float .f64 y0) → (RootNear r y0 ∧ ∀ r', Gd 0 r' (sqx xs qx nq) → RootBack r r') → Calls Tryd.prog 17 #[.slice (some ⟨fb, 0, none⟩) 1 1, .slice O n c, .slice Q nq cq, .slice (some ⟨vb, vo, none⟩) 1 cV] W fun e w' => e = .returned (.bool true) ∧ Mod (fun _ => False) W w') :=
    nv_rooted HX.out.1 HX.out.2.1 HX.out.2.2.1 HX.out.2.2.2.1 hg hm7 hm67 H6.out.1 H6.out.2.1
  have KEEP : Hid (∀ W : World, Mod (fun _ => False) W7 W → W.cell? ⟨w6.heap.size, 0, none⟩ = some (.slice A7 nq c7) ∧ W.cell? ⟨w6.heap.size, 1, none⟩ = some (.float .f64 r)) := fun W hm => ⟨(B7.mod hm (fun h => h)).at (i := 0) rfl, (B7.mod hm (fun h => h)).at (i := 1) rfl⟩
  have HM7 := Lib.hid hm7
  rw [← ho7, ← eW7]
  clear hm7 hm67 B7 eW7 ho7 hg
  go_region_held3 (fun w' => w'.cell? ⟨w6.heap.size, 0, none⟩ = some (.slice A7 nq c7) ∧ w'.cell? ⟨w6.heap.size, 1, none⟩ = some (.float .f64 r)) (exact KEEP.out _ (by repeat' (first | with_reducible exact Mod.refl _ _ | with_reducible exact HMA.out | with_reducible exact HMB.out | with_reducible refine Mod.drew ?_ | with_reducible refine Mod.drewN ?_ _ | with_reducible refine Mod.alloc ?_ _)))
    (first
      | (go_at_call 14; refine (SQF.out _ (by repeat' (first | with_reducible exact Mod.refl _ _ | with_reducible exact HMA.out | with_reducible refine Mod.drew ?_ | with_reducible refine Mod.drewN ?_ _ | with_reducible refine Mod.alloc ?_ _))).mono ?_; rintro _ w9 ⟨vb, vo, cV, y0, rfl, s1, s2, s3, s4, s5⟩; have hma : Mod (fun _ => False) W7 w9 := Mod.trans (by repeat' (first | with_reducible exact Mod.refl _ _ | with_reducible exact HMA.out | with_reducible refine Mod.drew ?_ | with_reducible refine Mod.drewN ?_ _ | with_reducible refine Mod.alloc ?_ _)) s5; have HMA := Lib.hid hma; (try (have b9 : Blk w9 W7.heap.size 43 [.slice A7 nq c7, .float .f64 r] := (by first | exact (Blk.new' W7 #[.slice A7 nq c7, .float .f64 r] 43).mod s5 (fun h => h) | exact (Blk.new' W7.drew #[.slice A7 nq c7, .float .f64 r] 43).mod s5 (fun h => h) | exact (Blk.new' (W7.drewN _) #[.slice A7 nq c7, .float .f64 r] 43).mod s5 (fun h => h)); have HB9 := Lib.hid b9; clear b9)); have HS := Lib.hid (And.intro s1 (And.intro s4 s5)); clear hma s1 s4 s5)
      | (go_at_call 17; refine (FDF.out _ _ vb vo cV y0 (by repeat' (first | with_reducible exact Mod.refl _ _ | with_reducible exact HMA.out | with_reducible refine Mod.drew ?_ | with_reducible refine Mod.drewN ?_ _ | with_reducible refine Mod.alloc ?_ _)) (by first | exact HB9.out | exact Blk.new' _ #[.slice A7 nq c7, .float .f64 r] 43) (((show Mod (fun _ => False) w9 _ from (by repeat' (first | with_reducible exact Mod.refl _ _ | with_reducible exact HMA.out | with_reducible refine Mod.drew ?_ | with_reducible refine Mod.drewN ?_ _ | with_reducible refine Mod.alloc ?_ _))).cell (lt_of_cell HS.out.1) (fun h => h)).trans HS.out.1) HS.out.2.1).mono ?_; rintro _ w10 ⟨rfl, hm10⟩; have hmb : Mod (fun _ => False) W7 w10 := Mod.trans (by repeat' (first | with_reducible exact Mod.refl _ _ | with_reducible exact HMA.out | with_reducible refine Mod.drew ?_ | with_reducible refine Mod.drewN ?_ _ | with_reducible refine Mod.alloc ?_ _)) hm10; have HMB := Lib.hid hmb; clear hmb hm10))
  all_goals
    go_wp2_with fail
    go_ret
    exact ⟨rfl, HM7.out.trans (by repeat' (first | with_reducible exact HMB.out | with_reducible refine Mod.drew ?_ | with_reducible refine Mod.drewN ?_ _))⟩
end Go.Proofs.YtpamoleocjdjiaaDoor

namespace Go.Proofs.YtpamoleocjdjiaaDoor
open Go.RowKit Lox
set_option linter.unusedVariables false

theorem fnTvNearest_at (x : RR) (Q : Option Addr) (one two nq cq : Nat) (qx : List Nat) (w : World) (h : x.Ok w) (h1 : one < 18446744073709551616) (h2 : two < 18446744073709551616) (hQ : Sl w Q nq 1 (flts qx)) :
    Calls Tryd.prog 4 #[x.v, .int .u64 one, .int .u64 two, .slice Q nq cq] w (TvYes w) := by
  obtain ⟨O, c, ps⟩ := x
  show Calls _ _ #[.slice O ps.length c, _, _, _] _ _
  by_cases hb : ps.length ≤ 2147483647 ∧ nq ≤ 2147483647 ∧ 0 < ps.length
  · exact tvnear_some O Q _ c cq one two nq ps qx w h rfl hb.2.2 hb.1 hQ hb.2.1 h1 h2
  · refine tvnear_long O Q _ c cq one two nq w ?_
    show Calls _ _ _ _ _
    refine (fits4_any ⟨O, c, ps⟩ w h).mono ?_
    rintro e w' ⟨b, rfl, rfl, hbb⟩
    refine ⟨b, rfl, rfl, fun e => ?_⟩
    have := (hbb e).1
    simp only at this
    omega
end Go.Proofs.YtpamoleocjdjiaaDoor
