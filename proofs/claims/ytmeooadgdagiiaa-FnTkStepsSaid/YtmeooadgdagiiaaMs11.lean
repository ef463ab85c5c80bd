/- Steps of a proof, one behind another: The walk of Node.search over a k-d tree in memory. Conditions: as each theorem says. -/
import Derived.Test.YtmeooadgdagiiaaMs10

namespace Lox
open Go Go.RowKit
theorem olt_eq (a b : Option Int) : olt a b = KB.oltI a b := by cases a <;> cases b <;> rfl
theorem omin_eq (a b : Option Int) : omin a b = KB.ominI a b := by unfold omin KB.ominI; rw [olt_eq]
namespace KB
variable {α : Type}

theorem srch_lo (z : α → Nat → Int) (zq : Nat → Int) (sq : α → Int) (p : α) (pl : Nat) (l r : T α) (D : Option Int) (hc : zq pl - z p pl ≤ 0) (D1 : Option Int) (hD : D1 = ominI D (some (sq p))) (s : Option α × Option Int) (hs : s = if oltI (srch z zq sq l D1).2 D1 then srch z zq sq l D1 else (some p, D1)) :
    srch z zq sq (.node p pl l r) D = if oltI (some ((zq pl - z p pl) * (zq pl - z p pl))) s.2 then (if oltI (srch z zq sq r s.2).2 s.2 then srch z zq sq r s.2 else s) else s := by
  subst hD hs
  simp only [srch, if_pos hc]

theorem srch_hi (z : α → Nat → Int) (zq : Nat → Int) (sq : α → Int) (p : α) (pl : Nat) (l r : T α) (D : Option Int) (hc : ¬ zq pl - z p pl ≤ 0) (D1 : Option Int) (hD : D1 = ominI D (some (sq p))) (s : Option α × Option Int) (hs : s = if oltI (srch z zq sq r D1).2 D1 then srch z zq sq r D1 else (some p, D1)) :
    srch z zq sq (.node p pl l r) D = if oltI (some ((zq pl - z p pl) * (zq pl - z p pl))) s.2 then (if oltI (srch z zq sq l s.2).2 s.2 then srch z zq sq l s.2 else s) else s := by
  subst hD hs
  simp only [srch, if_neg hc]
end KB
end Lox
namespace Go.Proofs.Ytmeooadgdagiiaa
open Go.RowKit Lox
set_option linter.unusedVariables false
attribute [local go_sem] run_store_flt run_store_fn
attribute [local go_sem ↓] Go.wp_at_zero Go.wp_at_succ

theorem kahead_distance (A : Option Addr) (n c : Nat) (w : World) : (nilAhead 318 73 (.slice A n c) "Distance").run Try.prog w = .ok (some false) w := by kernel_rfl
theorem kmeth_distance (S : Value) (w : World) : (method 318 73 S "Distance").run Try.prog w = .ok (135, S) w := by kernel_rfl

theorem mul_run {d : Nat} {e : Int} (g : Gd 0 d e) (h : e.natAbs ≤ 2097152) : ∃ m, (∀ (P : Program) (T : TypeId) (w : World), (binOp .mul T (.float .f64 d) (.float .f64 d)).run P w = .ok (.float .f64 m) w) ∧ DV m (some (e * e)) := by
  have h42 := sq_le42 h
  have hnn := sq_nn e
  have e0 : ((e : Int) : Rat) * p2 (-((0 : Nat) : Int)) = ((e : Int) : Rat) := by
    have : (-((0 : Nat) : Int)) = 0 := rfl
    rw [this, p2_zero, Rat.mul_one]
  have g1 : Is d ((e : Int) : Rat) := by have h := g; unfold Gd at h; rw [e0] at h; exact h
  have h2 := Is.mul g1 g1
  rw [← Rat.intCast_mul] at h2
  obtain ⟨m, hm, im⟩ := h2 (rep_whole _ (by omega)) (by
    have h1 := int_lt_p2 (e * e) 53 (by have : (2 ^ 53 : Nat) = 9007199254740992 := by decide
                                        omega)
    exact rlt_le h1 (p2_le (by omega)))
  exact ⟨m, fun P T w => run_float_arith w .mul T .f64 _ _ m hm, gd0_of_is im, hnn, by omega⟩

/-- The search over a tree in memory, as a plain one. -/
noncomputable def SS (dims : Nat) (q : TP) (t : MT) (D : Option Int) : Option TP × Option Int := KB.srch (fun x d => zi (x.n d)) (fun d => zi (q.n d)) (fun x => sqx q.xs x.xs dims) t.T D

/-- A pointer to the node of the point that a search names. -/
def PtrOk (w : World) (l : List TP) (o : Option TP) (ptr : Option Addr) : Prop :=
  (o = none ∧ ptr = none) ∨ ∃ p g, o = some p ∧ p ∈ l ∧ ptr = some ⟨g, 0, none⟩ ∧ w.cell? ⟨g, 0, none⟩ = some (.iface 73 p.v)

/-- What search tells: of the world w0 in which the tree stood. -/
def SrTold (dims : Nat) (q : TP) (t : MT) (D : Option Int) (w : World) (e : Ending) (w' : World) : Prop :=
  ∃ (ptr : Option Addr) (r : Nat), e = .returned (.tuple #[.pointer ptr, .float .f64 r]) ∧ DV r (SS dims q t D).2 ∧ PtrOk w' t.pts (SS dims q t D).1 ptr ∧ Mod (fun _ => False) w w'

theorem PtrOk.later {w w1 : World} {l m : List TP} {o : Option TP} {ptr : Option Addr} (h : PtrOk w l o ptr) (hm : Mod (fun _ => False) w w1) (hl : ∀ p ∈ l, p ∈ m) : PtrOk w1 m o ptr := by
  rcases h with h | ⟨p, g, h1, h2, h3, h4⟩
  · exact .inl h
  · exact .inr ⟨p, g, h1, hl p h2, h3, (hm.cell (lt_of_cell h4) (fun h => h)).trans h4⟩

theorem SS_lo (dims : Nat) (q : TP) (g : Nat) (p : TP) (pl : Nat) (bx : Option BX) (l r : MT) (D D1 : Option Int) (cz : Int) (hD : D1 = KB.ominI D (some (sqx q.xs p.xs dims))) (hz : cz = zi (q.n pl) - zi (p.n pl)) (hc : cz ≤ 0) (s : Option TP × Option Int) (hs : s = if KB.oltI (SS dims q l D1).2 D1 then SS dims q l D1 else (some p, D1)) :
    SS dims q (.node g p pl bx l r) D = if KB.oltI (some (cz * cz)) s.2 then (if KB.oltI (SS dims q r s.2).2 s.2 then SS dims q r s.2 else s) else s := by
  subst hz
  exact KB.srch_lo (fun (x : TP) d => zi (x.n d)) (fun d => zi (q.n d)) (fun x => sqx q.xs x.xs dims) p pl l.T r.T D hc D1 hD s hs

theorem SS_hi (dims : Nat) (q : TP) (g : Nat) (p : TP) (pl : Nat) (bx : Option BX) (l r : MT) (D D1 : Option Int) (cz : Int) (hD : D1 = KB.ominI D (some (sqx q.xs p.xs dims))) (hz : cz = zi (q.n pl) - zi (p.n pl)) (hc : ¬ cz ≤ 0) (s : Option TP × Option Int) (hs : s = if KB.oltI (SS dims q r D1).2 D1 then SS dims q r D1 else (some p, D1)) :
    SS dims q (.node g p pl bx l r) D = if KB.oltI (some (cz * cz)) s.2 then (if KB.oltI (SS dims q l s.2).2 s.2 then SS dims q l s.2 else s) else s := by
  subst hz
  exact KB.srch_hi (fun (x : TP) d => zi (x.n d)) (fun d => zi (q.n d)) (fun x => sqx q.xs x.xs dims) p pl l.T r.T D hc D1 hD s hs

theorem look0 {r : Nat} {a : Int} (hr : Gd 0 r a) : (FloatKind.f64.format.order r 0 == some .lt || FloatKind.f64.format.order r 0 == some .eq) = decide (a ≤ 0) := le_look (a := a) (b := 0) (by rw [Int.sub_zero]; exact hr)

theorem sq_dv (q p : TP) (dims r : Nat) (w1 w2 : World) (hq : q.Ok w1 dims) (hp : p.Ok w2 dims) (gq : q.Gr) (gp : p.Gr) (hdm : dims ≤ 4) (h : Gd 0 r (sqx q.xs p.xs dims)) : DV r (some (sqx q.xs p.xs dims)) := by
  have hle := sqx_le q.xs p.xs (TP.gr_iff.1 gq) (TP.gr_iff.1 gp) dims (by have := hq.1; omega) (by have := hp.1; omega)
  exact ⟨h, sqx_nn _ _ _, by omega⟩

set_option maxRecDepth 100000 in
set_option maxHeartbeats 16000000 in
theorem search_at (dims : Nat) (hdm : 0 < dims ∧ dims ≤ 4) (q : TP) (hqg : q.Gr) (mt : MT) :
    ∀ (w : World) (v : Value) (x : Nat) (D : Option Int), mt.In w v → q.Ok w dims → (∀ p ∈ mt.pts, p.Ok w dims ∧ p.Gr) → mt.T.Each (fun _ d => d < dims) → DV x D →
      Calls Try.prog 70 #[v, .iface 73 (.slice q.A dims q.c), .float .f64 x] w (SrTold dims q mt D w) := by
  have m1 := kmeth_distance
  have m2 := kmeth_compare
  have m3 := kahead_compare
  have m4 := kahead_distance
  induction mt with
  | nil =>
    intro w v x D hI hq hP hE hx
    have hv : v = .pointer none := hI
    subst hv
    clear hI hq hP hE hx
    go_enter Try.func70, Try.ntmps70
    go_wp2_with (go_at_call 69; refine (inf_at _).mono ?_; rintro _ w1 ⟨rfl, rfl⟩)
    go_ret2
    exact ⟨none, INFB, rfl, rfl, .inl ⟨rfl, rfl⟩, Mod.refl _ _⟩
  | node g p pl bx l r ihl ihr =>
    intro w v x D hI hq hP hE hx
    obtain ⟨hv, lv, rv, hb, hl, hr⟩ := hI
    subst hv
    obtain ⟨ql, rfl⟩ := hl.ptr
    obtain ⟨qr, rfl⟩ := hr.ptr
    have hpp := hP p (by simp [MT.pts])
    obtain ⟨hpl, hEl, hEr⟩ := hE
    have ha : Wh (q.n pl) (zi (q.n pl)) := zi_wh (hqg pl (by rw [hq.1]; exact hpl))
    have hb2 : Wh (p.n pl) (zi (p.n pl)) := zi_wh (hpp.2 pl (by rw [hpp.1.1]; exact hpl))
    have c0 : w.cell? ⟨g, 0, none⟩ = some (.iface 73 (.slice p.A dims p.c)) := by rw [← hpp.1.1]; exact hb.at (i := 0) rfl
    have c1 : w.cell? ⟨g, 1, none⟩ = some (.int .i64 pl) := hb.at (i := 1) rfl
    have hgl := hb.lt
    have HIL := Lib.hid ihl
    have HIR := Lib.hid ihr
    have HAB := Lib.hid (And.intro ha hb2)
    have HB := Lib.hid (And.intro hb (And.intro hl (And.intro hr (And.intro hP (And.intro hEl hEr)))))
    have HQ := Lib.hid hq
    have HPP := Lib.hid hpp
    have HX := Lib.hid hx
    clear ihl ihr hq hpp ha hb2 hb hl hr hP hEl hEr hx
    obtain ⟨cz, hcz⟩ : ∃ cz, cz = zi (q.n pl) - zi (p.n pl) := ⟨_, rfl⟩
    have hcb : cz.natAbs ≤ 2097152 := by have := HAB.out.1.2; have := HAB.out.2.2; omega
    have HCZ := Lib.hid (And.intro hcz hcb)
    obtain ⟨D1, hD1⟩ : ∃ D1, D1 = KB.ominI D (some (sqx q.xs p.xs dims)) := ⟨_, rfl⟩
    have HD1 := Lib.hid hD1
    have CMP : Hid (∀ w1 : World, Mod (fun _ => False) w w1 → Calls Try.prog 133 #[.slice q.A dims q.c, .iface 73 (.slice p.A dims p.c), .int .i64 pl] w1 fun e w' => (∃ r, e = .returned (.float .f64 r) ∧ Gd 0 r cz) ∧ Mod (fun _ => False) w w') := by
      intro w1 hm
      exact (pcompare_at w1 dims pl pl q p _ _ rfl (HQ.out.mod0 hm) (HPP.out.1.mod0 hm) HAB.out.1 HAB.out.2 hpl (by omega)).mono fun e w' ⟨⟨r, he, hr⟩, hm2⟩ => ⟨⟨r, he, by rw [hcz]; exact hr⟩, hm.trans hm2⟩
    have DST : Hid (∀ w1 : World, Mod (fun _ => False) w w1 → Calls Try.prog 135 #[.slice q.A dims q.c, .iface 73 (.slice p.A dims p.c)] w1 fun e w' => (∃ r, e = .returned (.float .f64 r) ∧ DV r (some (sqx q.xs p.xs dims))) ∧ w1 = w') := by
      intro w1 hm
      exact (dist_at w1 dims q p (HQ.out.mod0 hm) (HPP.out.1.mod0 hm) hqg HPP.out.2 hdm.2).mono fun e w' ⟨⟨r, he, hr⟩, hm2⟩ => ⟨⟨r, he, sq_dv q p dims r w w HQ.out HPP.out.1 hqg HPP.out.2 hdm.2 hr⟩, hm2⟩
    have MN : Hid (∀ (y : Nat) (w1 : World), DV y (some (sqx q.xs p.xs dims)) → Calls Try.prog 78 #[.float .f64 x, .float .f64 y] w1 fun e w' => (∃ r, e = .returned (.float .f64 r) ∧ DV r D1) ∧ w1 = w') := by
      intro y w1 hy
      rw [hD1, ← omin_eq]
      exact min_at x y D _ w1 HX.out hy
    clear hcz hD1 hcb
    go_enter Try.func70, Try.ntmps70
    go_wp2_with fail
    go_region_held3 (fun w' => w'.cell? ⟨g, 0, none⟩ = some (.iface 73 (.slice p.A dims p.c)) ∧ w'.cell? ⟨g, 1, none⟩ = some (.int .i64 pl)) (first | exact ⟨c0, c1⟩ | exact ⟨(hm2.cell hgl (fun h => h)).trans c0, (hm2.cell hgl (fun h => h)).trans c1⟩)
      (first | (go_at_call 133; refine (CMP.out _ (by first | exact ((Mod.refl _ _).drewN _).drew | exact (Mod.refl _ _).drewN _)).mono ?_; rintro _ w2 ⟨⟨fr, rfl, hfr⟩, hm2⟩))
    have k0 : w2.cell? ⟨g, 0, none⟩ = some (.iface 73 (.slice p.A dims p.c)) := (hm2.cell hgl (fun h => h)).trans c0
    have HM2 := Lib.hid (And.intro hm2 hfr)
    clear hm2 hfr
    go_wp2_with fail
    go_region_held3 (fun w' => w'.cell? ⟨g, 0, none⟩ = some (.iface 73 (.slice p.A dims p.c))) (first | exact k0)
      (first | (go_at_call 135; refine (DST.out _ (by first | exact HM2.out.1.drewN _ | exact (HM2.out.1.drewN _).drew | exact ((HM2.out.1.drewN _).drew).drew)).mono ?_; rintro _ w3 ⟨⟨dr, rfl, hdr⟩, rfl⟩) | (go_at_call 78; refine (MN.out _ _ hdr).mono ?_; rintro _ w4 ⟨⟨mr, rfl, hmr⟩, rfl⟩))
    have hlk := look0 HM2.out.2
    have hmw : Mod (fun _ => False) w w2.drew := HM2.out.1.drew
    obtain ⟨cc, hcc, hdc⟩ := mul_run HM2.out.2 HCZ.out.2
    have k2 : w2.cell? ⟨g, 2, none⟩ = some (.pointer ql) := (HB.out.1.mod HM2.out.1 (fun h => h)).at (i := 2) rfl
    have k3 : w2.cell? ⟨g, 3, none⟩ = some (.pointer qr) := (HB.out.1.mod HM2.out.1 (fun h => h)).at (i := 3) rfl
    have HM := Lib.hid (And.intro hmw (And.intro hmr hdc))
    clear hmw hmr hdc hdr k0 c0 c1
    by_cases hc : cz ≤ 0
    · rw [decide_eq_true hc] at hlk
      have HC := Lib.hid hc
      clear hc
      cases hla : KB.oltI (SS dims q l D1).2 D1 with
      | true =>
        have HLA := Lib.hid hla
        clear hla
        cases hkc : KB.oltI (some (cz * cz)) (SS dims q l D1).2 with
        | false =>
          have HKC := Lib.hid hkc
          clear hkc
          go_wp2_with (go_at_call 70; refine (HIL.out _ (.pointer ql) mr D1 (HB.out.2.1.mod HM.out.1 (fun _ _ h => h)) (HQ.out.mod0 HM.out.1) (fun p' hp' => ⟨(HB.out.2.2.2.1 p' (by simp [MT.pts, hp'])).1.mod0 HM.out.1, (HB.out.2.2.2.1 p' (by simp [MT.pts, hp'])).2⟩) HB.out.2.2.2.2.1 HM.out.2.1).mono ?_; rintro _ w5 ⟨pa, ra, rfl, a1, a2, a3⟩; have f1 : (FloatKind.f64.format.order ra mr == some .lt) = true := (a1.lt HM.out.2.1).trans ((olt_eq _ _).trans HLA.out); have f2 : (FloatKind.f64.format.order cc ra == some .lt) = false := (HM.out.2.2.lt a1).trans ((olt_eq _ _).trans HKC.out); have kF : w5.cell? ⟨g, 3, none⟩ = some (.pointer qr) := (HB.out.1.mod (HM.out.1.trans a3) (fun h => h)).at (i := 3) rfl; have HA := Lib.hid (And.intro a1 (And.intro a2 a3)); clear a1 a2 a3)
          go_ret2
          have e := SS_lo dims q g p pl bx l r D D1 cz HD1.out HCZ.out.1 HC.out (SS dims q l D1) (by rw [HLA.out]; rfl)
          try dsimp only at e
          rw [HKC.out, if_neg (by decide)] at e
          unfold SrTold
          rw [e]
          exact ⟨pa, ra, rfl, HA.out.1, HA.out.2.1.later (Mod.refl _ _) (fun p' hp' => by simp [MT.pts, hp']), (HM.out.1.trans HA.out.2.2)⟩
        | true =>
          have HKC := Lib.hid hkc
          clear hkc
          cases hlb : KB.oltI (SS dims q r (SS dims q l D1).2).2 (SS dims q l D1).2 with
          | true =>
            have HLB := Lib.hid hlb
            clear hlb
            go_wp2_with (first | (have _h1 := kF; go_at_call 70; refine (HIR.out _ (.pointer qr) ra (SS dims q l D1).2 (HB.out.2.2.1.mod (HM.out.1.trans HA.out.2.2) (fun _ _ h => h)) (HQ.out.mod0 (HM.out.1.trans HA.out.2.2)) (fun p' hp' => ⟨(HB.out.2.2.2.1 p' (by simp [MT.pts, hp'])).1.mod0 (HM.out.1.trans HA.out.2.2), (HB.out.2.2.2.1 p' (by simp [MT.pts, hp'])).2⟩) HB.out.2.2.2.2.2 HA.out.1).mono ?_; rintro _ w6 ⟨pb, rb, rfl, b1, b2, b3⟩; have f3 : (FloatKind.f64.format.order rb ra == some .lt) = true := (b1.lt HA.out.1).trans ((olt_eq _ _).trans HLB.out); have HBB := Lib.hid (And.intro b1 (And.intro b2 b3)); clear b1 b2 b3) | (go_at_call 70; refine (HIL.out _ (.pointer ql) mr D1 (HB.out.2.1.mod HM.out.1 (fun _ _ h => h)) (HQ.out.mod0 HM.out.1) (fun p' hp' => ⟨(HB.out.2.2.2.1 p' (by simp [MT.pts, hp'])).1.mod0 HM.out.1, (HB.out.2.2.2.1 p' (by simp [MT.pts, hp'])).2⟩) HB.out.2.2.2.2.1 HM.out.2.1).mono ?_; rintro _ w5 ⟨pa, ra, rfl, a1, a2, a3⟩; have f1 : (FloatKind.f64.format.order ra mr == some .lt) = true := (a1.lt HM.out.2.1).trans ((olt_eq _ _).trans HLA.out); have f2 : (FloatKind.f64.format.order cc ra == some .lt) = true := (HM.out.2.2.lt a1).trans ((olt_eq _ _).trans HKC.out); have kF : w5.cell? ⟨g, 3, none⟩ = some (.pointer qr) := (HB.out.1.mod (HM.out.1.trans a3) (fun h => h)).at (i := 3) rfl; have HA := Lib.hid (And.intro a1 (And.intro a2 a3)); clear a1 a2 a3))
            go_ret2
            have e := SS_lo dims q g p pl bx l r D D1 cz HD1.out HCZ.out.1 HC.out (SS dims q l D1) (by rw [HLA.out]; rfl)
            try dsimp only at e
            rw [HKC.out, if_pos rfl, HLB.out, if_pos rfl] at e
            unfold SrTold
            rw [e]
            exact ⟨pb, rb, rfl, HBB.out.1, HBB.out.2.1.later (Mod.refl _ _) (fun p' hp' => by simp [MT.pts, hp']), ((HM.out.1.trans HA.out.2.2).trans HBB.out.2.2)⟩
          | false =>
            have HLB := Lib.hid hlb
            clear hlb
            go_wp2_with (first | (have _h1 := kF; go_at_call 70; refine (HIR.out _ (.pointer qr) ra (SS dims q l D1).2 (HB.out.2.2.1.mod (HM.out.1.trans HA.out.2.2) (fun _ _ h => h)) (HQ.out.mod0 (HM.out.1.trans HA.out.2.2)) (fun p' hp' => ⟨(HB.out.2.2.2.1 p' (by simp [MT.pts, hp'])).1.mod0 (HM.out.1.trans HA.out.2.2), (HB.out.2.2.2.1 p' (by simp [MT.pts, hp'])).2⟩) HB.out.2.2.2.2.2 HA.out.1).mono ?_; rintro _ w6 ⟨pb, rb, rfl, b1, b2, b3⟩; have f3 : (FloatKind.f64.format.order rb ra == some .lt) = false := (b1.lt HA.out.1).trans ((olt_eq _ _).trans HLB.out); have HBB := Lib.hid (And.intro b1 (And.intro b2 b3)); clear b1 b2 b3) | (go_at_call 70; refine (HIL.out _ (.pointer ql) mr D1 (HB.out.2.1.mod HM.out.1 (fun _ _ h => h)) (HQ.out.mod0 HM.out.1) (fun p' hp' => ⟨(HB.out.2.2.2.1 p' (by simp [MT.pts, hp'])).1.mod0 HM.out.1, (HB.out.2.2.2.1 p' (by simp [MT.pts, hp'])).2⟩) HB.out.2.2.2.2.1 HM.out.2.1).mono ?_; rintro _ w5 ⟨pa, ra, rfl, a1, a2, a3⟩; have f1 : (FloatKind.f64.format.order ra mr == some .lt) = true := (a1.lt HM.out.2.1).trans ((olt_eq _ _).trans HLA.out); have f2 : (FloatKind.f64.format.order cc ra == some .lt) = true := (HM.out.2.2.lt a1).trans ((olt_eq _ _).trans HKC.out); have kF : w5.cell? ⟨g, 3, none⟩ = some (.pointer qr) := (HB.out.1.mod (HM.out.1.trans a3) (fun h => h)).at (i := 3) rfl; have HA := Lib.hid (And.intro a1 (And.intro a2 a3)); clear a1 a2 a3))
            go_ret2
            have e := SS_lo dims q g p pl bx l r D D1 cz HD1.out HCZ.out.1 HC.out (SS dims q l D1) (by rw [HLA.out]; rfl)
            try dsimp only at e
            rw [HKC.out, if_pos rfl, HLB.out, if_neg (by decide)] at e
            unfold SrTold
            rw [e]
            exact ⟨pa, ra, rfl, HA.out.1, HA.out.2.1.later HBB.out.2.2 (fun p' hp' => by simp [MT.pts, hp']), ((HM.out.1.trans HA.out.2.2).trans HBB.out.2.2)⟩
      | false =>
        have HLA := Lib.hid hla
        clear hla
        cases hkc : KB.oltI (some (cz * cz)) D1 with
        | false =>
          have HKC := Lib.hid hkc
          clear hkc
          go_wp2_with (go_at_call 70; refine (HIL.out _ (.pointer ql) mr D1 (HB.out.2.1.mod HM.out.1 (fun _ _ h => h)) (HQ.out.mod0 HM.out.1) (fun p' hp' => ⟨(HB.out.2.2.2.1 p' (by simp [MT.pts, hp'])).1.mod0 HM.out.1, (HB.out.2.2.2.1 p' (by simp [MT.pts, hp'])).2⟩) HB.out.2.2.2.2.1 HM.out.2.1).mono ?_; rintro _ w5 ⟨pa, ra, rfl, a1, a2, a3⟩; have f1 : (FloatKind.f64.format.order ra mr == some .lt) = false := (a1.lt HM.out.2.1).trans ((olt_eq _ _).trans HLA.out); have f2 : (FloatKind.f64.format.order cc mr == some .lt) = false := (HM.out.2.2.lt HM.out.2.1).trans ((olt_eq _ _).trans HKC.out); have kF : w5.cell? ⟨g, 3, none⟩ = some (.pointer qr) := (HB.out.1.mod (HM.out.1.trans a3) (fun h => h)).at (i := 3) rfl; have HA := Lib.hid (And.intro a1 (And.intro a2 a3)); clear a1 a2 a3)
          go_ret2
          have e := SS_lo dims q g p pl bx l r D D1 cz HD1.out HCZ.out.1 HC.out ((some p, D1)) (by rw [HLA.out]; rfl)
          try dsimp only at e
          rw [HKC.out, if_neg (by decide)] at e
          unfold SrTold
          rw [e]
          exact ⟨some ⟨g, 0, none⟩, mr, rfl, HM.out.2.1, .inr ⟨p, g, rfl, by simp [MT.pts], rfl, (HB.out.1.mod (HM.out.1.trans HA.out.2.2) (fun h => h)).at (i := 0) rfl⟩, (HM.out.1.trans HA.out.2.2)⟩
        | true =>
          have HKC := Lib.hid hkc
          clear hkc
          cases hlb : KB.oltI (SS dims q r D1).2 D1 with
          | true =>
            have HLB := Lib.hid hlb
            clear hlb
            go_wp2_with (first | (have _h1 := kF; go_at_call 70; refine (HIR.out _ (.pointer qr) mr D1 (HB.out.2.2.1.mod (HM.out.1.trans HA.out.2.2) (fun _ _ h => h)) (HQ.out.mod0 (HM.out.1.trans HA.out.2.2)) (fun p' hp' => ⟨(HB.out.2.2.2.1 p' (by simp [MT.pts, hp'])).1.mod0 (HM.out.1.trans HA.out.2.2), (HB.out.2.2.2.1 p' (by simp [MT.pts, hp'])).2⟩) HB.out.2.2.2.2.2 HM.out.2.1).mono ?_; rintro _ w6 ⟨pb, rb, rfl, b1, b2, b3⟩; have f3 : (FloatKind.f64.format.order rb mr == some .lt) = true := (b1.lt HM.out.2.1).trans ((olt_eq _ _).trans HLB.out); have HBB := Lib.hid (And.intro b1 (And.intro b2 b3)); clear b1 b2 b3) | (go_at_call 70; refine (HIL.out _ (.pointer ql) mr D1 (HB.out.2.1.mod HM.out.1 (fun _ _ h => h)) (HQ.out.mod0 HM.out.1) (fun p' hp' => ⟨(HB.out.2.2.2.1 p' (by simp [MT.pts, hp'])).1.mod0 HM.out.1, (HB.out.2.2.2.1 p' (by simp [MT.pts, hp'])).2⟩) HB.out.2.2.2.2.1 HM.out.2.1).mono ?_; rintro _ w5 ⟨pa, ra, rfl, a1, a2, a3⟩; have f1 : (FloatKind.f64.format.order ra mr == some .lt) = false := (a1.lt HM.out.2.1).trans ((olt_eq _ _).trans HLA.out); have f2 : (FloatKind.f64.format.order cc mr == some .lt) = true := (HM.out.2.2.lt HM.out.2.1).trans ((olt_eq _ _).trans HKC.out); have kF : w5.cell? ⟨g, 3, none⟩ = some (.pointer qr) := (HB.out.1.mod (HM.out.1.trans a3) (fun h => h)).at (i := 3) rfl; have HA := Lib.hid (And.intro a1 (And.intro a2 a3)); clear a1 a2 a3))
            go_ret2
            have e := SS_lo dims q g p pl bx l r D D1 cz HD1.out HCZ.out.1 HC.out ((some p, D1)) (by rw [HLA.out]; rfl)
            try dsimp only at e
            rw [HKC.out, if_pos rfl, HLB.out, if_pos rfl] at e
            unfold SrTold
            rw [e]
            exact ⟨pb, rb, rfl, HBB.out.1, HBB.out.2.1.later (Mod.refl _ _) (fun p' hp' => by simp [MT.pts, hp']), ((HM.out.1.trans HA.out.2.2).trans HBB.out.2.2)⟩
          | false =>
            have HLB := Lib.hid hlb
            clear hlb
            go_wp2_with (first | (have _h1 := kF; go_at_call 70; refine (HIR.out _ (.pointer qr) mr D1 (HB.out.2.2.1.mod (HM.out.1.trans HA.out.2.2) (fun _ _ h => h)) (HQ.out.mod0 (HM.out.1.trans HA.out.2.2)) (fun p' hp' => ⟨(HB.out.2.2.2.1 p' (by simp [MT.pts, hp'])).1.mod0 (HM.out.1.trans HA.out.2.2), (HB.out.2.2.2.1 p' (by simp [MT.pts, hp'])).2⟩) HB.out.2.2.2.2.2 HM.out.2.1).mono ?_; rintro _ w6 ⟨pb, rb, rfl, b1, b2, b3⟩; have f3 : (FloatKind.f64.format.order rb mr == some .lt) = false := (b1.lt HM.out.2.1).trans ((olt_eq _ _).trans HLB.out); have HBB := Lib.hid (And.intro b1 (And.intro b2 b3)); clear b1 b2 b3) | (go_at_call 70; refine (HIL.out _ (.pointer ql) mr D1 (HB.out.2.1.mod HM.out.1 (fun _ _ h => h)) (HQ.out.mod0 HM.out.1) (fun p' hp' => ⟨(HB.out.2.2.2.1 p' (by simp [MT.pts, hp'])).1.mod0 HM.out.1, (HB.out.2.2.2.1 p' (by simp [MT.pts, hp'])).2⟩) HB.out.2.2.2.2.1 HM.out.2.1).mono ?_; rintro _ w5 ⟨pa, ra, rfl, a1, a2, a3⟩; have f1 : (FloatKind.f64.format.order ra mr == some .lt) = false := (a1.lt HM.out.2.1).trans ((olt_eq _ _).trans HLA.out); have f2 : (FloatKind.f64.format.order cc mr == some .lt) = true := (HM.out.2.2.lt HM.out.2.1).trans ((olt_eq _ _).trans HKC.out); have kF : w5.cell? ⟨g, 3, none⟩ = some (.pointer qr) := (HB.out.1.mod (HM.out.1.trans a3) (fun h => h)).at (i := 3) rfl; have HA := Lib.hid (And.intro a1 (And.intro a2 a3)); clear a1 a2 a3))
            go_ret2
            have e := SS_lo dims q g p pl bx l r D D1 cz HD1.out HCZ.out.1 HC.out ((some p, D1)) (by rw [HLA.out]; rfl)
            try dsimp only at e
            rw [HKC.out, if_pos rfl, HLB.out, if_neg (by decide)] at e
            unfold SrTold
            rw [e]
            exact ⟨some ⟨g, 0, none⟩, mr, rfl, HM.out.2.1, .inr ⟨p, g, rfl, by simp [MT.pts], rfl, (HB.out.1.mod ((HM.out.1.trans HA.out.2.2).trans HBB.out.2.2) (fun h => h)).at (i := 0) rfl⟩, ((HM.out.1.trans HA.out.2.2).trans HBB.out.2.2)⟩
    · rw [decide_eq_false hc] at hlk
      have HC := Lib.hid hc
      clear hc
      cases hla : KB.oltI (SS dims q r D1).2 D1 with
      | true =>
        have HLA := Lib.hid hla
        clear hla
        cases hkc : KB.oltI (some (cz * cz)) (SS dims q r D1).2 with
        | false =>
          have HKC := Lib.hid hkc
          clear hkc
          go_wp2_with (go_at_call 70; refine (HIR.out _ (.pointer qr) mr D1 (HB.out.2.2.1.mod HM.out.1 (fun _ _ h => h)) (HQ.out.mod0 HM.out.1) (fun p' hp' => ⟨(HB.out.2.2.2.1 p' (by simp [MT.pts, hp'])).1.mod0 HM.out.1, (HB.out.2.2.2.1 p' (by simp [MT.pts, hp'])).2⟩) HB.out.2.2.2.2.2 HM.out.2.1).mono ?_; rintro _ w5 ⟨pa, ra, rfl, a1, a2, a3⟩; have f1 : (FloatKind.f64.format.order ra mr == some .lt) = true := (a1.lt HM.out.2.1).trans ((olt_eq _ _).trans HLA.out); have f2 : (FloatKind.f64.format.order cc ra == some .lt) = false := (HM.out.2.2.lt a1).trans ((olt_eq _ _).trans HKC.out); have kF : w5.cell? ⟨g, 2, none⟩ = some (.pointer ql) := (HB.out.1.mod (HM.out.1.trans a3) (fun h => h)).at (i := 2) rfl; have HA := Lib.hid (And.intro a1 (And.intro a2 a3)); clear a1 a2 a3)
          go_ret2
          have e := SS_hi dims q g p pl bx l r D D1 cz HD1.out HCZ.out.1 (Int.not_le.2 HC.out) (SS dims q r D1) (by rw [HLA.out]; rfl)
          try dsimp only at e
          rw [HKC.out, if_neg (by decide)] at e
          unfold SrTold
          rw [e]
          exact ⟨pa, ra, rfl, HA.out.1, HA.out.2.1.later (Mod.refl _ _) (fun p' hp' => by simp [MT.pts, hp']), (HM.out.1.trans HA.out.2.2)⟩
        | true =>
          have HKC := Lib.hid hkc
          clear hkc
          cases hlb : KB.oltI (SS dims q l (SS dims q r D1).2).2 (SS dims q r D1).2 with
          | true =>
            have HLB := Lib.hid hlb
            clear hlb
            go_wp2_with (first | (have _h1 := kF; go_at_call 70; refine (HIL.out _ (.pointer ql) ra (SS dims q r D1).2 (HB.out.2.1.mod (HM.out.1.trans HA.out.2.2) (fun _ _ h => h)) (HQ.out.mod0 (HM.out.1.trans HA.out.2.2)) (fun p' hp' => ⟨(HB.out.2.2.2.1 p' (by simp [MT.pts, hp'])).1.mod0 (HM.out.1.trans HA.out.2.2), (HB.out.2.2.2.1 p' (by simp [MT.pts, hp'])).2⟩) HB.out.2.2.2.2.1 HA.out.1).mono ?_; rintro _ w6 ⟨pb, rb, rfl, b1, b2, b3⟩; have f3 : (FloatKind.f64.format.order rb ra == some .lt) = true := (b1.lt HA.out.1).trans ((olt_eq _ _).trans HLB.out); have HBB := Lib.hid (And.intro b1 (And.intro b2 b3)); clear b1 b2 b3) | (go_at_call 70; refine (HIR.out _ (.pointer qr) mr D1 (HB.out.2.2.1.mod HM.out.1 (fun _ _ h => h)) (HQ.out.mod0 HM.out.1) (fun p' hp' => ⟨(HB.out.2.2.2.1 p' (by simp [MT.pts, hp'])).1.mod0 HM.out.1, (HB.out.2.2.2.1 p' (by simp [MT.pts, hp'])).2⟩) HB.out.2.2.2.2.2 HM.out.2.1).mono ?_; rintro _ w5 ⟨pa, ra, rfl, a1, a2, a3⟩; have f1 : (FloatKind.f64.format.order ra mr == some .lt) = true := (a1.lt HM.out.2.1).trans ((olt_eq _ _).trans HLA.out); have f2 : (FloatKind.f64.format.order cc ra == some .lt) = true := (HM.out.2.2.lt a1).trans ((olt_eq _ _).trans HKC.out); have kF : w5.cell? ⟨g, 2, none⟩ = some (.pointer ql) := (HB.out.1.mod (HM.out.1.trans a3) (fun h => h)).at (i := 2) rfl; have HA := Lib.hid (And.intro a1 (And.intro a2 a3)); clear a1 a2 a3))
            go_ret2
            have e := SS_hi dims q g p pl bx l r D D1 cz HD1.out HCZ.out.1 (Int.not_le.2 HC.out) (SS dims q r D1) (by rw [HLA.out]; rfl)
            try dsimp only at e
            rw [HKC.out, if_pos rfl, HLB.out, if_pos rfl] at e
            unfold SrTold
            rw [e]
            exact ⟨pb, rb, rfl, HBB.out.1, HBB.out.2.1.later (Mod.refl _ _) (fun p' hp' => by simp [MT.pts, hp']), ((HM.out.1.trans HA.out.2.2).trans HBB.out.2.2)⟩
          | false =>
            have HLB := Lib.hid hlb
            clear hlb
            go_wp2_with (first | (have _h1 := kF; go_at_call 70; refine (HIL.out _ (.pointer ql) ra (SS dims q r D1).2 (HB.out.2.1.mod (HM.out.1.trans HA.out.2.2) (fun _ _ h => h)) (HQ.out.mod0 (HM.out.1.trans HA.out.2.2)) (fun p' hp' => ⟨(HB.out.2.2.2.1 p' (by simp [MT.pts, hp'])).1.mod0 (HM.out.1.trans HA.out.2.2), (HB.out.2.2.2.1 p' (by simp [MT.pts, hp'])).2⟩) HB.out.2.2.2.2.1 HA.out.1).mono ?_; rintro _ w6 ⟨pb, rb, rfl, b1, b2, b3⟩; have f3 : (FloatKind.f64.format.order rb ra == some .lt) = false := (b1.lt HA.out.1).trans ((olt_eq _ _).trans HLB.out); have HBB := Lib.hid (And.intro b1 (And.intro b2 b3)); clear b1 b2 b3) | (go_at_call 70; refine (HIR.out _ (.pointer qr) mr D1 (HB.out.2.2.1.mod HM.out.1 (fun _ _ h => h)) (HQ.out.mod0 HM.out.1) (fun p' hp' => ⟨(HB.out.2.2.2.1 p' (by simp [MT.pts, hp'])).1.mod0 HM.out.1, (HB.out.2.2.2.1 p' (by simp [MT.pts, hp'])).2⟩) HB.out.2.2.2.2.2 HM.out.2.1).mono ?_; rintro _ w5 ⟨pa, ra, rfl, a1, a2, a3⟩; have f1 : (FloatKind.f64.format.order ra mr == some .lt) = true := (a1.lt HM.out.2.1).trans ((olt_eq _ _).trans HLA.out); have f2 : (FloatKind.f64.format.order cc ra == some .lt) = true := (HM.out.2.2.lt a1).trans ((olt_eq _ _).trans HKC.out); have kF : w5.cell? ⟨g, 2, none⟩ = some (.pointer ql) := (HB.out.1.mod (HM.out.1.trans a3) (fun h => h)).at (i := 2) rfl; have HA := Lib.hid (And.intro a1 (And.intro a2 a3)); clear a1 a2 a3))
            go_ret2
            have e := SS_hi dims q g p pl bx l r D D1 cz HD1.out HCZ.out.1 (Int.not_le.2 HC.out) (SS dims q r D1) (by rw [HLA.out]; rfl)
            try dsimp only at e
            rw [HKC.out, if_pos rfl, HLB.out, if_neg (by decide)] at e
            unfold SrTold
            rw [e]
            exact ⟨pa, ra, rfl, HA.out.1, HA.out.2.1.later HBB.out.2.2 (fun p' hp' => by simp [MT.pts, hp']), ((HM.out.1.trans HA.out.2.2).trans HBB.out.2.2)⟩
      | false =>
        have HLA := Lib.hid hla
        clear hla
        cases hkc : KB.oltI (some (cz * cz)) D1 with
        | false =>
          have HKC := Lib.hid hkc
          clear hkc
          go_wp2_with (go_at_call 70; refine (HIR.out _ (.pointer qr) mr D1 (HB.out.2.2.1.mod HM.out.1 (fun _ _ h => h)) (HQ.out.mod0 HM.out.1) (fun p' hp' => ⟨(HB.out.2.2.2.1 p' (by simp [MT.pts, hp'])).1.mod0 HM.out.1, (HB.out.2.2.2.1 p' (by simp [MT.pts, hp'])).2⟩) HB.out.2.2.2.2.2 HM.out.2.1).mono ?_; rintro _ w5 ⟨pa, ra, rfl, a1, a2, a3⟩; have f1 : (FloatKind.f64.format.order ra mr == some .lt) = false := (a1.lt HM.out.2.1).trans ((olt_eq _ _).trans HLA.out); have f2 : (FloatKind.f64.format.order cc mr == some .lt) = false := (HM.out.2.2.lt HM.out.2.1).trans ((olt_eq _ _).trans HKC.out); have kF : w5.cell? ⟨g, 2, none⟩ = some (.pointer ql) := (HB.out.1.mod (HM.out.1.trans a3) (fun h => h)).at (i := 2) rfl; have HA := Lib.hid (And.intro a1 (And.intro a2 a3)); clear a1 a2 a3)
          go_ret2
          have e := SS_hi dims q g p pl bx l r D D1 cz HD1.out HCZ.out.1 (Int.not_le.2 HC.out) ((some p, D1)) (by rw [HLA.out]; rfl)
          try dsimp only at e
          rw [HKC.out, if_neg (by decide)] at e
          unfold SrTold
          rw [e]
          exact ⟨some ⟨g, 0, none⟩, mr, rfl, HM.out.2.1, .inr ⟨p, g, rfl, by simp [MT.pts], rfl, (HB.out.1.mod (HM.out.1.trans HA.out.2.2) (fun h => h)).at (i := 0) rfl⟩, (HM.out.1.trans HA.out.2.2)⟩
        | true =>
          have HKC := Lib.hid hkc
          clear hkc
          cases hlb : KB.oltI (SS dims q l D1).2 D1 with
          | true =>
            have HLB := Lib.hid hlb
            clear hlb
            go_wp2_with (first | (have _h1 := kF; go_at_call 70; refine (HIL.out _ (.pointer ql) mr D1 (HB.out.2.1.mod (HM.out.1.trans HA.out.2.2) (fun _ _ h => h)) (HQ.out.mod0 (HM.out.1.trans HA.out.2.2)) (fun p' hp' => ⟨(HB.out.2.2.2.1 p' (by simp [MT.pts, hp'])).1.mod0 (HM.out.1.trans HA.out.2.2), (HB.out.2.2.2.1 p' (by simp [MT.pts, hp'])).2⟩) HB.out.2.2.2.2.1 HM.out.2.1).mono ?_; rintro _ w6 ⟨pb, rb, rfl, b1, b2, b3⟩; have f3 : (FloatKind.f64.format.order rb mr == some .lt) = true := (b1.lt HM.out.2.1).trans ((olt_eq _ _).trans HLB.out); have HBB := Lib.hid (And.intro b1 (And.intro b2 b3)); clear b1 b2 b3) | (go_at_call 70; refine (HIR.out _ (.pointer qr) mr D1 (HB.out.2.2.1.mod HM.out.1 (fun _ _ h => h)) (HQ.out.mod0 HM.out.1) (fun p' hp' => ⟨(HB.out.2.2.2.1 p' (by simp [MT.pts, hp'])).1.mod0 HM.out.1, (HB.out.2.2.2.1 p' (by simp [MT.pts, hp'])).2⟩) HB.out.2.2.2.2.2 HM.out.2.1).mono ?_; rintro _ w5 ⟨pa, ra, rfl, a1, a2, a3⟩; have f1 : (FloatKind.f64.format.order ra mr == some .lt) = false := (a1.lt HM.out.2.1).trans ((olt_eq _ _).trans HLA.out); have f2 : (FloatKind.f64.format.order cc mr == some .lt) = true := (HM.out.2.2.lt HM.out.2.1).trans ((olt_eq _ _).trans HKC.out); have kF : w5.cell? ⟨g, 2, none⟩ = some (.pointer ql) := (HB.out.1.mod (HM.out.1.trans a3) (fun h => h)).at (i := 2) rfl; have HA := Lib.hid (And.intro a1 (And.intro a2 a3)); clear a1 a2 a3))
            go_ret2
            have e := SS_hi dims q g p pl bx l r D D1 cz HD1.out HCZ.out.1 (Int.not_le.2 HC.out) ((some p, D1)) (by rw [HLA.out]; rfl)
            try dsimp only at e
            rw [HKC.out, if_pos rfl, HLB.out, if_pos rfl] at e
            unfold SrTold
            rw [e]
            exact ⟨pb, rb, rfl, HBB.out.1, HBB.out.2.1.later (Mod.refl _ _) (fun p' hp' => by simp [MT.pts, hp']), ((HM.out.1.trans HA.out.2.2).trans HBB.out.2.2)⟩
          | false =>
            have HLB := Lib.hid hlb
            clear hlb
            go_wp2_with (first | (have _h1 := kF; go_at_call 70; refine (HIL.out _ (.pointer ql) mr D1 (HB.out.2.1.mod (HM.out.1.trans HA.out.2.2) (fun _ _ h => h)) (HQ.out.mod0 (HM.out.1.trans HA.out.2.2)) (fun p' hp' => ⟨(HB.out.2.2.2.1 p' (by simp [MT.pts, hp'])).1.mod0 (HM.out.1.trans HA.out.2.2), (HB.out.2.2.2.1 p' (by simp [MT.pts, hp'])).2⟩) HB.out.2.2.2.2.1 HM.out.2.1).mono ?_; rintro _ w6 ⟨pb, rb, rfl, b1, b2, b3⟩; have f3 : (FloatKind.f64.format.order rb mr == some .lt) = false := (b1.lt HM.out.2.1).trans ((olt_eq _ _).trans HLB.out); have HBB := Lib.hid (And.intro b1 (And.intro b2 b3)); clear b1 b2 b3) | (go_at_call 70; refine (HIR.out _ (.pointer qr) mr D1 (HB.out.2.2.1.mod HM.out.1 (fun _ _ h => h)) (HQ.out.mod0 HM.out.1) (fun p' hp' => ⟨(HB.out.2.2.2.1 p' (by simp [MT.pts, hp'])).1.mod0 HM.out.1, (HB.out.2.2.2.1 p' (by simp [MT.pts, hp'])).2⟩) HB.out.2.2.2.2.2 HM.out.2.1).mono ?_; rintro _ w5 ⟨pa, ra, rfl, a1, a2, a3⟩; have f1 : (FloatKind.f64.format.order ra mr == some .lt) = false := (a1.lt HM.out.2.1).trans ((olt_eq _ _).trans HLA.out); have f2 : (FloatKind.f64.format.order cc mr == some .lt) = true := (HM.out.2.2.lt HM.out.2.1).trans ((olt_eq _ _).trans HKC.out); have kF : w5.cell? ⟨g, 2, none⟩ = some (.pointer ql) := (HB.out.1.mod (HM.out.1.trans a3) (fun h => h)).at (i := 2) rfl; have HA := Lib.hid (And.intro a1 (And.intro a2 a3)); clear a1 a2 a3))
            go_ret2
            have e := SS_hi dims q g p pl bx l r D D1 cz HD1.out HCZ.out.1 (Int.not_le.2 HC.out) ((some p, D1)) (by rw [HLA.out]; rfl)
            try dsimp only at e
            rw [HKC.out, if_pos rfl, HLB.out, if_neg (by decide)] at e
            unfold SrTold
            rw [e]
            exact ⟨some ⟨g, 0, none⟩, mr, rfl, HM.out.2.1, .inr ⟨p, g, rfl, by simp [MT.pts], rfl, (HB.out.1.mod ((HM.out.1.trans HA.out.2.2).trans HBB.out.2.2) (fun h => h)).at (i := 0) rfl⟩, ((HM.out.1.trans HA.out.2.2).trans HBB.out.2.2)⟩
end Go.Proofs.Ytmeooadgdagiiaa
