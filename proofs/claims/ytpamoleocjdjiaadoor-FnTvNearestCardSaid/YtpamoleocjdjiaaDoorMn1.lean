/- Steps of a proof, one behind another: The walk of tFound. The walk of tRooted. The search in a vantage-point tree, in plain Lean: what rounding leaves of the triangle's law. The walk that makes a vantage-point tree of nodes that are written down. What a search in a vantage-point tree has found so far, and what it passes over. Conditions: as each theorem says. -/
import Derived.Test.YtpamoleocjdjiaaDoorMv13
import Derived.Deep.RegionHeld3
import Derived.Deep.DrawnRows
import Derived.Deep.DeepCutAuto

namespace Go.Proofs.YtpamoleocjdjiaaDoor
open Go.RowKit Lox
set_option linter.unusedVariables false
attribute [local go_sem] run_store_flt run_store_fn

/-- What was found: points, each with its number, in a row. -/
structure FRows (w : World) (F : Option Addr) (n : Nat) (fs : List (TP × Nat)) : Prop where
  len : fs.length = n
  cells : 0 < n → ∃ b o, F = some ⟨b, o, none⟩ ∧ ∀ i x, fs[i]? = some x → w.cell? ⟨b, o + i * 2, none⟩ = some x.1.v ∧ w.cell? ⟨b, o + i * 2 + 1, none⟩ = some (.float .f64 x.2)

theorem FRows.mod {w w' : World} {F : Option Addr} {n : Nat} {fs : List (TP × Nat)} (h : FRows w F n fs) (hm : Mod (fun _ => False) w w') : FRows w' F n fs := by
  refine ⟨h.len, fun h0 => ?_⟩
  obtain ⟨b, o, e, hc⟩ := h.cells h0
  exact ⟨b, o, e, fun i x hx => ⟨(hm.cell (lt_of_cell (hc i x hx).1) (fun h => h)).trans (hc i x hx).1, (hm.cell (lt_of_cell (hc i x hx).2) (fun h => h)).trans (hc i x hx).2⟩⟩

/-- The loop's state. -/
structure GT (w w' : World) (v : Value) (k : Nat) (gs : List TP) : Prop where
  own : w'.ownsRow w.heap.size 26 1 v k (gs.map TP.v)
  mod : Mod (fun _ => False) w w'

theorem GT.step {w w' w1 w3 : World} {v : Value} {k g cap : Nat} {gs : List TP} {p : TP} (h : GT w w' v k gs) (h1 : Mod (fun _ => False) w' w1) {o : Obj} (hown : w3.ownsRow w.heap.size 26 1 (.slice (some ⟨g, 0, none⟩) (k + 1) cap) (k + 1) (gs.map TP.v ++ [p.v])) (hgrow : (w1.alloc o).grownBy w3 v.ownBlock) : GT w w3 (.slice (some ⟨g, 0, none⟩) (k + 1) cap) (k + 1) (gs ++ [p]) := by
  refine ⟨by rw [List.map_append]; exact hown, ((h.mod.trans h1).alloc o).grown hgrow (fun j e hj => by have := (own_block h.own e).1; omega)⟩

theorem GT.rows {w w' : World} {v : Value} {n : Nat} {gs : List TP} (h : GT w w' v n gs) : ∃ A c, v = .slice A n c ∧ Sl w' A n 1 (gs.map TP.v) := by
  have h2 := h.own
  have h3 : AllTold gs [] n w (.returned v) w' := own_told (by rw [List.append_nil]; exact h2) h.mod
  obtain ⟨A, c, e, hs, -, -⟩ := h3
  injection e with e
  rw [List.append_nil] at hs
  exact ⟨A, c, e, hs⟩

end Go.Proofs.YtpamoleocjdjiaaDoor

namespace Lox
open Go Go.RowKit
set_option linter.unusedVariables false

/-- The root of a number is near a distance, by words; the distance stands first. -/
def RootNear (d y : Nat) : Prop := ∃ t d1 am, Ieee.double.sqrt y = some t ∧ (∀ (P : Program) (T : TypeId) (w : World), (binOp .sub T (.float .f64 d) (.float .f64 t)).run P w = .ok (.float .f64 d1) w) ∧ am = d1 % 9223372036854775808 ∧ (FloatKind.f64.format.order am 4472074429978902528 == some .lt) = true

/-- The same; the root stands first. -/
def RootBack (d y : Nat) : Prop := ∃ t d1 am, Ieee.double.sqrt y = some t ∧ (∀ (P : Program) (T : TypeId) (w : World), (binOp .sub T (.float .f64 t) (.float .f64 d)).run P w = .ok (.float .f64 d1) w) ∧ am = d1 % 9223372036854775808 ∧ (FloatKind.f64.format.order am 4472074429978902528 == some .lt) = true

/-- A distance that is a little above the least is near its root. -/
theorem near_words2 {d t : Nat} {s s' : Int} (hd : Dst d s) (ht : Dst t s') (h1 : vl d ≤ vl t + 1 / 4294967296) (h2 : s' ≤ s) (hs : s ≤ 33554432) (h0 : 0 ≤ s') : ∃ e, Ieee.double.sub d t = some e ∧ (FloatKind.f64.format.order (e % 9223372036854775808) 4472074429978902528 == some .lt) = true := by
  have n2 : vl t ≤ vl d + 1 / 17179869184 := by
    rcases (show s' < s ∨ s' = s by omega) with h | h
    · have := dst_lt ht hd hs h0 h
      grind
    · subst h
      have := dst_near ht hd hs h0
      grind
  have habs : (vl d - vl t).abs ≤ 1 / 4294967296 := abs_le_iff.2 (by constructor <;> grind)
  obtain ⟨e, he, fe, hv, _⟩ := sub_ok hd.1 ht.1 (big_p2 (by grind))
  refine ⟨e, he, ?_⟩
  obtain ⟨f, e1, _⟩ := fin_mag fe
  rw [or_lt f tiny_is.1, tiny_is.2, e1]
  refine decide_eq_true ?_
  have h1 := p2_1075_le
  rw [p2_53] at hv
  have h2 := abs_le_iff.1 habs
  have h3 := abs_le_iff.1 hv
  have h4 : (vl d - vl t).abs * (1 / 9007199254740992) ≤ 1 / 17179869184 := by
    have hn : 0 ≤ (vl d - vl t).abs := Rat.abs_nonneg
    grind
  have h5 : (vl e).abs ≤ 2 / 4294967296 := abs_le_iff.2 (by constructor <;> grind)
  grind

theorem rootnear_of {d y : Nat} {s s' : Int} (hd : Dst d s) (hy : Gd 0 y s') (h1 : ∀ t, Dst t s' → vl d ≤ vl t + 1 / 4294967296) (h2 : s' ≤ s) (hs : s ≤ 33554432) (h0 : 0 ≤ s') : RootNear d y := by
  obtain ⟨t, ht, hdt⟩ := dst_of hy h0 (by omega)
  obtain ⟨e, he, hlt⟩ := near_words2 hd hdt (h1 t hdt) h2 hs h0
  exact ⟨t, e, _, ht, fun P T w => run_float_arith w .sub T .f64 _ _ e he, rfl, hlt⟩

theorem rootback_of {d y : Nat} {s : Int} (hd : Dst d s) (hy : Gd 0 y s) (hs : s ≤ 33554432) (h0 : 0 ≤ s) : RootBack d y := by
  obtain ⟨t, ht, hdt⟩ := dst_of hy h0 hs
  obtain ⟨e, he, hlt⟩ := near_words hdt hd hs h0
  exact ⟨t, e, _, ht, fun P T w => run_float_arith w .sub T .f64 _ _ e he, rfl, hlt⟩
end Lox
namespace Go.Proofs.YtpamoleocjdjiaaDoor
open Go.RowKit Lox
set_option linter.unusedVariables false
attribute [local go_sem] run_store_flt run_store_fn

set_option maxRecDepth 100000 in
set_option maxHeartbeats 8000000 in
theorem rooted_at (F I W : Option Addr) (n cF m ci cw dims : Nat) (fs : List (TP × Nat)) (ps : List TP) (q : TP) (ws : List Nat) (w : World) (hF : FRows w F n fs) (hf : ∀ x ∈ fs, x.1.Rd w ∧ x.1.xs.length = dims ∧ x.1.Gr) (hW : Sl w W n 1 (flts ws)) (hw : ∀ (i : Nat) (x : TP × Nat) (y : Nat), fs[i]? = some x → ws[i]? = some y → RootNear x.2 y ∧ ∀ r, Gd 0 r (sqx x.1.xs q.xs dims) → RootBack x.2 r)
    (hp : PRows w I m ps dims) (gp : ∀ p ∈ ps, p.Gr) (hq : q.Ok w dims) (gq : q.Gr) (hc : ∀ κ, ((fs.map (·.1)).map TP.key).count κ ≤ (ps.map TP.key).count κ) (hn : n ≤ 2147483647 ∧ m ≤ 2147483647) (hdm : dims ≤ 4) :
    Calls Tryd.prog 17 #[.slice F n cF, .slice I m ci, .slice q.A dims q.c, .slice W n cw] w fun e w' => e = .returned (.bool true) ∧ Mod (fun _ => False) w w' := by
  obtain ⟨i0, hi0, hz0, hz1, hz2⟩ := info_parts info_floats
  have HI := Lib.hid (And.intro hi0 (And.intro hz0 (And.intro hz1 hz2)))
  clear hi0 hz0 hz1 hz2
  have hwl : ws.length = n := by have := hW.1; simpa [flts] using this
  have HH := Lib.hid (And.intro hF (And.intro hf (And.intro hW (And.intro hw (And.intro hp (And.intro gp (And.intro hq (And.intro gq (And.intro hc hwl)))))))))
  clear hF hf hW hw hp gp hq gq hc hwl
  go_enter Tryd.func17, Tryd.ntmps17
  go_wp2
  go_loopw [9, 19] (fun v i wr => ∃ k : Nat, k ≤ n ∧ i = .int .i64 k ∧ Hid (GT w wr v k ((fs.take k).map (·.1)))) (fun _ i _ => n - (intOf i).toNat)
  case atStart => exact ⟨0, Nat.zero_le _, rfl, World.ownsRow_nil _ _ _ _, Mod.refl _ _⟩
  case round =>
    obtain ⟨k, hk, rfl, HR⟩ := hrel
    by_cases hlt : k < n
    · have hfr := HH.out.1.mod HR.out.mod
      obtain ⟨b, o, eF, hcl⟩ := hfr.cells (by omega)
      have hk2 : k < fs.length := by rw [HH.out.1.len]; exact hlt
      obtain ⟨x, ex⟩ : ∃ x, x = fs[k] := ⟨_, rfl⟩
      have hxk : fs[k]? = some x := by rw [ex]; exact List.getElem?_eq_getElem hk2
      have hTK : fs.take (k + 1) = fs.take k ++ [x] := by rw [List.take_succ_eq_append_getElem hk2, ex]
      obtain ⟨c0, c1⟩ := hcl k x hxk
      obtain ⟨hrd, hpl, hpg⟩ := HH.out.2.1 x (List.mem_of_getElem? hxk)
      obtain ⟨b2, o2, v2, e2, f2, d2⟩ := (HH.out.2.2.1.mod HR.out.mod).at1 hlt
      have hw2 : k < ws.length := by rw [HH.out.2.2.2.2.2.2.2.2.2]; exact hlt
      rw [flts_getD hw2] at f2
      cases f2
      have hwk : ws[k]? = some (ws.getD k 0) := by simp [hw2]
      obtain ⟨g1, g2⟩ := HH.out.2.2.2.1 k x _ hxk hwk
      obtain ⟨p, d⟩ := x
      have hpl : p.xs.length = dims := hpl
      have c0' : wr.cell? ⟨b, o + k * 2, none⟩ = some (.slice p.A dims p.c) := by rw [c0, ← hpl]; rfl
      have c1' : wr.cell? ⟨b, o + k * 2 + 1, none⟩ = some (.float .f64 d) := c1
      generalize ws.getD k 0 = y at d2 g1
      obtain ⟨t1, e1, m1, k1, hsub1, k2, hlt1⟩ := g1
      have HN := Lib.hid (And.intro k1 k2)
      have HS := Lib.hid (And.intro (show p.Ok wr dims from ⟨hpl, (hrd.mod HR.out.mod).1⟩) (And.intro hpg (And.intro hTK (And.intro (show ∀ r, Gd 0 r (sqx p.xs q.xs dims) → RootBack d r from g2) hpl))))
      subst eF e2
      clear hfr hcl hk2 ex hxk hTK c0 c1 hrd hpl hpg hw2 hwk k1 k2 g2
      have i0' : (0 : Int) ≤ k := by omega
      have i1' : (k : Int) < n := by omega
      obtain ⟨o1, ho1⟩ : ∃ o1, o1 = Obj.cells #[.slice p.A dims p.c, .float .f64 d] 43 := ⟨_, rfl⟩
      have B1 : Blk (wr.alloc o1) wr.heap.size 43 [.slice p.A dims p.c, .float .f64 d] := by rw [ho1]; exact Blk.new' wr _ _
      have y0 := B1.at (i := 0) rfl
      have y1 := B1.at (i := 1) rfl
      have y2 : (wr.alloc o1).cell? ⟨b2, o2 + k, none⟩ = some (.float .f64 y) := (World.cell?_alloc_past _ _ _ (lt_of_cell d2)).trans d2
      have HY := Lib.hid (And.intro y0 (And.intro y1 y2))
      rw [ho1] at HY
      have hd0 : decide ((dims : Int) = dims) = true := decide_eq_true rfl
      clear B1 y0 y1 y2 ho1
      go_wp2_with fail
      go_region_held3 (fun w' => w'.cell? ⟨wr.heap.size, 0, none⟩ = some (.slice p.A dims p.c) ∧ w'.cell? ⟨wr.heap.size, 1, none⟩ = some (.float .f64 d) ∧ w'.cell? ⟨b2, o2 + k, none⟩ = some (.float .f64 y)) (first | exact HY.out)
        (first
          | (go_at_call 13; refine (sqrt_at y t1 _ HN.out.1).mono ?_; rintro _ _ ⟨rfl, rfl⟩)
          | (go_at_call 12; refine (abs_at' _ e1 m1 HN.out.2).mono ?_; rintro _ _ ⟨rfl, rfl⟩)
          | (go_at_call 15; refine (square_at _ dims p q (HS.out.1.mod0 (by first | exact (((Mod.refl _ _).alloc _).drewN _).drew | exact ((Mod.refl _ _).alloc _).drewN _)) (HH.out.2.2.2.2.2.2.1.mod0 (HR.out.mod.trans (by first | exact (((Mod.refl _ _).alloc _).drewN _).drew | exact ((Mod.refl _ _).alloc _).drewN _))) HS.out.2.1 HH.out.2.2.2.2.2.2.2.1 hdm).mono ?_; rintro _ wq ⟨⟨r, rfl, hr⟩, m4, rfl⟩; obtain ⟨t2, e2, m2, k3, hsub2, k4, hlt2⟩ := HS.out.2.2.2.1 r hr; have HQ := Lib.hid (And.intro k3 k4); clear k3 k4 hr)
          | (go_at_call 13; refine (sqrt_at r t2 _ HQ.out.1).mono ?_; rintro _ _ ⟨rfl, rfl⟩)
          | (go_at_call 12; refine (abs_at' _ e2 m2 HQ.out.2).mono ?_; rintro _ _ ⟨rfl, rfl⟩))
      obtain ⟨W5, eW5⟩ : ∃ W5, W5 = (wr.alloc (Obj.cells #[.slice p.A dims p.c, .float .f64 d] 43)).drewN (1 + m4) := ⟨_, rfl⟩
      rw [← eW5]
      have hm5 : Mod (fun _ => False) wr W5 := by rw [eW5]; exact ((Mod.refl _ _).alloc _).drewN _
      have y0 : W5.cell? ⟨wr.heap.size, 0, none⟩ = some (.slice p.A dims p.c) := by rw [eW5]; exact HY.out.1
      have HM5 := Lib.hid hm5
      clear hm5 eW5 hsub1 hlt1 hsub2 hlt2
      have hkl : ((fs.take k).map (·.1)).length = k := by rw [List.length_map, List.length_take, HH.out.1.len]; omega
      have HKL := Lib.hid hkl
      clear hkl
      go_wp2_with (at_builtin; go_loud (refine wpList_append_lies _ (by rfl) (.tmp 56) (.tmp 59) 22 (by rfl) w.heap.size 26 i0 _ 1 24 Tryd.underlying22 HI.out.1 HI.out.2.1 HI.out.2.2.1 HI.out.2.2.2 rfl (by omega) u9 k (((fs.take k).map (·.1)).map TP.v) (by rfl) ((HR.out.own.kept HM5.out.grownBy (Decidable.em _)).alloc _) ⟨W5.heap.size, 0, none⟩ 1 1 [.slice p.A dims p.c] (by rfl) (by rfl) (World.news_of_block (cs := #[.slice p.A dims p.c]) (t := 26) (fr := (0, 0)) (heap_alloc_new W5 _)) (by simp [Value.oneCell']) (by omega) (by unfold maxLen; omega) (by omega) (by have := HR.out.mod.size; have := HM5.out.size; simp; omega) (W5.heap.size + 1) (by simp) ?_; intro gg cap w3 hown3 hgrow hat hlt3; have HG := Lib.hid (And.intro hown3 (And.intro hgrow hat)); clear hown3 hgrow hat))
      go_roundw
      case rel =>
        refine ⟨k + 1, by omega, by go_num, ?_⟩
        rw [HS.out.2.2.1, List.map_append]
        refine HR.out.step (p := p) HM5.out ?_ HG.out.2.1
        have h := HG.out.1
        have e : p.v = .slice p.A dims p.c := by rw [← HS.out.2.2.2.2]; rfl
        rw [e]
        exact h
      case measure => simp [intOf]; omega
    · obtain rfl : k = n := by omega
      have h := HR.out
      rw [List.take_of_length_le (by rw [HH.out.1.len]; exact Nat.le_refl _)] at h
      obtain ⟨A, c, rfl, hs⟩ := h.rows
      have HSL := Lib.hid hs
      clear h hs
      go_wp2_with (go_at_call 29; refine (among_at A I k c m ci dims (fs.map (·.1)) ps _ ⟨HSL.out, fun p hp => (by obtain ⟨x, hx, rfl⟩ := List.mem_map.1 hp; exact ⟨(HH.out.2.1 x hx).1.mod HR.out.mod, (HH.out.2.1 x hx).2.1⟩)⟩ (HH.out.2.2.2.2.1.mod HR.out.mod) (fun p hp => (by obtain ⟨x, hx, rfl⟩ := List.mem_map.1 hp; exact (HH.out.2.1 x hx).2.2)) HH.out.2.2.2.2.2.1 hn (by omega) HH.out.2.2.2.2.2.2.2.2.1).mono ?_; rintro _ w2 ⟨rfl, hm2⟩; have HM2 := Lib.hid hm2; clear hm2)
      go_ret
      exact ⟨rfl, HR.out.mod.trans HM2.out⟩
end Go.Proofs.YtpamoleocjdjiaaDoor

namespace Lox
open Go Go.RowKit
set_option linter.unusedVariables false

theorem p2_49' : p2 (-49) = 1 / 562949953421312 := p2_49

/-- The triangle's law for rounded roots. -/
theorem tri {ra rb rc : Nat} {a b c m : Int} (ha : Dst ra a) (hb : Dst rb b) (hc : Dst rc c) (h1 : a ≤ b + c + 2 * m) (h2 : m * m ≤ b * c) (b0 : 0 ≤ b) (c0 : 0 ≤ c) (hbb : b ≤ 33554432) (hcc : c ≤ 33554432) : vl ra ≤ vl rb + vl rc + 1 / 8589934592 := by
  have ka := ha.bds.2
  have kb := hb.bds.1
  have kc := hc.bds.1
  have na := ha.2.1
  have nb := hb.2.1
  have nc := hc.2.1
  have bb := dst_big hb hbb b0
  have bc := dst_big hc hcc c0
  have h1' := rat_le h1
  have h2' := rat_le h2
  have b0' := rat_le b0
  have c0' := rat_le c0
  rw [Rat.intCast_add, Rat.intCast_add, Rat.intCast_mul] at h1'
  rw [Rat.intCast_mul, Rat.intCast_mul] at h2'
  have e2 : ((2 : Int) : Rat) = 2 := rfl
  have e0 : ((0 : Int) : Rat) = 0 := rfl
  rw [e2] at h1'
  rw [e0] at b0' c0'
  generalize (a : Rat) = A at *
  generalize (b : Rat) = B at *
  generalize (c : Rat) = C at *
  generalize (m : Rat) = M at *
  generalize vl ra = x at *
  generalize vl rb = y at *
  generalize vl rc = z at *
  -- k (1 - eta) = 1
  have hk : ∃ k : Rat, k = 562949953421312 / 562949953421311 := ⟨_, rfl⟩
  obtain ⟨k, hk⟩ := hk
  have hB : B ≤ k * (y * y) := by rw [hk]; grind
  have hC : C ≤ k * (z * z) := by rw [hk]; grind
  have hyz : 0 ≤ y * z := Rat.mul_nonneg nb nc
  have hk0 : 0 ≤ k := by rw [hk]; decide +kernel
  have hyy : 0 ≤ y * y := Rat.mul_nonneg nb nb
  have hM : M ≤ k * (y * z) := by
    refine Rat.not_lt.1 fun hlt => ?_
    have hkyz : 0 ≤ k * (y * z) := Rat.mul_nonneg hk0 hyz
    have h3 : (k * (y * z)) * (k * (y * z)) < M * M := by
      have e1 : (k * (y * z)) * (k * (y * z)) ≤ (k * (y * z)) * M := Rat.mul_le_mul_of_nonneg_left (Rat.le_of_lt hlt) hkyz
      have hMp : 0 < M := by grind
      have e2 : (k * (y * z)) * M < M * M := (Rat.mul_lt_mul_right hMp).2 hlt
      grind
    have h4 : B * C ≤ (k * (y * y)) * (k * (z * z)) := by
      have e1 : B * C ≤ B * (k * (z * z)) := Rat.mul_le_mul_of_nonneg_left hC b0'
      have hzz : 0 ≤ k * (z * z) := Rat.mul_nonneg hk0 (Rat.mul_nonneg nc nc)
      have e2 : B * (k * (z * z)) ≤ (k * (y * y)) * (k * (z * z)) := Rat.mul_le_mul_of_nonneg_right hB hzz
      grind
    have h5 : (k * (y * y)) * (k * (z * z)) = (k * (y * z)) * (k * (y * z)) := by grind
    grind
  have hA : A ≤ k * ((y + z) * (y + z)) := by grind
  have hx : x * x ≤ k * ((y + z) * (y + z)) * (562949953421313 / 562949953421312) := by
    have e1 : x * x ≤ A * (562949953421313 / 562949953421312) := by grind
    have e2 : A * (562949953421313 / 562949953421312) ≤ k * ((y + z) * (y + z)) * (562949953421313 / 562949953421312) := Rat.mul_le_mul_of_nonneg_right hA (by decide +kernel)
    grind
  have hs : 0 ≤ y + z := by grind
  have hsb : y + z ≤ 16384 := by grind
  -- (s + e)² ≥ s² + 2 s e, and s² (k (1 + eta) - 1) ≤ s * 2 e
  refine sq_le na (by grind) ?_
  generalize y + z = s at *
  have hss : s * s ≤ 16384 * s := Rat.mul_le_mul_of_nonneg_right hsb hs
  have hss0 : 0 ≤ s * s := Rat.mul_nonneg hs hs
  have hk2 : k * (562949953421313 / 562949953421312) ≤ 1 + 1 / 140737488355328 := by rw [hk]; decide +kernel
  have h6 : k * (s * s) * (562949953421313 / 562949953421312) ≤ (s * s) * (1 + 1 / 140737488355328) := by
    have := Rat.mul_le_mul_of_nonneg_left hk2 hss0
    grind
  grind

theorem int_sq_nn (a : Int) : 0 ≤ a * a := by
  have := Int.natAbs_mul_self (a := a)
  omega

theorem cs_step {B C m a b : Int} (hB : 0 ≤ B) (hC : 0 ≤ C) (h : m * m ≤ B * C) : (m + a * b) * (m + a * b) ≤ (B + a * a) * (C + b * b) := by
  have hX : 0 ≤ B * (b * b) := Int.mul_nonneg hB (int_sq_nn b)
  have hY : 0 ≤ C * (a * a) := Int.mul_nonneg hC (int_sq_nn a)
  have hab : 0 ≤ (a * a) * (b * b) := Int.mul_nonneg (int_sq_nn a) (int_sq_nn b)
  have ht : (m * (a * b)) * (m * (a * b)) ≤ (B * (b * b)) * (C * (a * a)) := by
    have h1 : (m * m) * ((a * a) * (b * b)) ≤ (B * C) * ((a * a) * (b * b)) := Int.mul_le_mul_of_nonneg_right h hab
    have e1 : (m * (a * b)) * (m * (a * b)) = (m * m) * ((a * a) * (b * b)) := by grind
    have e2 : (B * (b * b)) * (C * (a * a)) = (B * C) * ((a * a) * (b * b)) := by grind
    rw [e1, e2]; exact h1
  have key : 2 * (m * (a * b)) ≤ B * (b * b) + C * (a * a) := by
    generalize B * (b * b) = X at *
    generalize C * (a * a) = Y at *
    generalize m * (a * b) = t at *
    refine Int.not_lt.1 fun hlt => ?_
    have h0 : 0 ≤ X + Y := by omega
    have h1 : (X + Y) * (X + Y) ≤ (X + Y) * (2 * t) := Int.mul_le_mul_of_nonneg_left (by omega) h0
    have h2 : (X + Y) * (2 * t) < (2 * t) * (2 * t) := Int.mul_lt_mul_of_pos_right hlt (by omega)
    have h3 := int_sq_nn (X - Y)
    have e : (X - Y) * (X - Y) = (X + Y) * (X + Y) - 4 * (X * Y) := by grind
    have e4 : (2 * t) * (2 * t) = 4 * (t * t) := by grind
    omega
  have e1 : (m + a * b) * (m + a * b) = m * m + 2 * (m * (a * b)) + (a * a) * (b * b) := by grind
  have e2 : (B + a * a) * (C + b * b) = B * C + (B * (b * b) + C * (a * a)) + (a * a) * (b * b) := by grind
  rw [e1, e2]
  omega

/-- Three points: the square of one side by the others. -/
theorem sqx_tri (vs xs qs : List Nat) : ∀ k, ∃ m : Int, sqx vs xs k = sqx xs qs k + sqx vs qs k + 2 * m ∧ m * m ≤ sqx xs qs k * sqx vs qs k := by
  intro k
  induction k with
  | zero => exact ⟨0, rfl, by simp [sqx]⟩
  | succ k ih =>
    obtain ⟨m, h1, h2⟩ := ih
    simp only [sqx]
    have b0 := sqx_nn xs qs k
    have c0 := sqx_nn vs qs k
    generalize zi (vs.getD k 0) = v at *
    generalize zi (xs.getD k 0) = x at *
    generalize zi (qs.getD k 0) = q at *
    generalize sqx vs xs k = A at *
    generalize sqx xs qs k = B at *
    generalize sqx vs qs k = C at *
    refine ⟨m + (q - x) * (v - q), ?_, ?_⟩
    · rw [h1]; grind
    · have := cs_step (a := q - x) (b := v - q) b0 c0 h2
      have e : (q - x) * (q - x) = (x - q) * (x - q) := by grind
      rw [e] at this
      exact this
end Lox

namespace Go.Proofs.YtpamoleocjdjiaaDoor
open Go.RowKit Lox
set_option linter.unusedVariables false
attribute [local go_sem] run_store_flt run_store_fn
attribute [local go_sem ↓] Go.wp_at_zero Go.wp_at_succ

/-- The tree has been made. -/
def VnMade (dims : Nat) (vt : VT) (w : World) (e : Ending) (w' : World) : Prop :=
  ∃ (v : Value) (vt' : VT), e = .returned v ∧ vt'.In w' v ∧ vt'.T.map TP.xs = vt.T.map TP.xs ∧ (∀ g ∈ vt'.gs, w.heap.size ≤ g) ∧ (∀ p ∈ vt'.pts, p.Ok w' dims ∧ ∀ b o, p.A = some ⟨b, o, none⟩ → w.heap.size ≤ b) ∧ Mod (fun _ => False) w w'

theorem VT.at_lt {vt : VT} {i : Nat} (h : ¬ (i : Int) < vt.at (i + 1)) : vt = .nil := by
  cases vt with
  | nil => rfl
  | node g p d l r => exact absurd (by show (i : Int) < ((i + 1 : Nat) : Int); omega) h

theorem VT.at_lt2 {vt : VT} {i k : Nat} (h : ¬ (i : Int) < vt.at (i + 1 + k)) : vt = .nil := by
  cases vt with
  | nil => rfl
  | node g p d l r => exact absurd (by show (i : Int) < ((i + 1 + k : Nat) : Int); omega) h

theorem VT.In.setOff {w : World} {t : VT} {v : Value} {g i : Nat} (h : t.In w v) (hg : ∀ k ∈ t.gs, g < k) (u : Value) : t.In (w.setCell ⟨g, i, none⟩ u) v :=
  h.keep fun k hk _ => Below.heap_setCell _ _ _ _ (by show k ≠ g; have := hg k hk; omega)

theorem TP.Ok.setAway {w : World} {dims g i : Nat} {p : TP} (h : p.Ok w dims) (hg : ∀ b o, p.A = some ⟨b, o, none⟩ → b ≠ g) (u : Value) : p.Ok (w.setCell ⟨g, i, none⟩ u) dims :=
  h.apart (S := fun k => k = g) ((Mod.refl (fun k => k = g) w).set (p := ⟨g, i, none⟩) (.inl rfl) u) fun b o e => hg b o e

set_option maxRecDepth 100000 in
set_option maxHeartbeats 8000000 in
theorem vnode_at (A : Option Addr) (c n dims B : Nat) (rs : List VR) (hdm : 0 < dims ∧ dims ≤ 4) (hn : n = rs.length) (vt : VT) :
    ∀ (i : Nat) (I : Int) (w : World), I = vt.at i → VS B w dims (.slice A n c) rs → VSeg rs vt i → Calls Tryd.prog 47 #[.slice A n c, .int .i64 I] w (VnMade dims vt w) := by
  induction vt with
  | nil =>
    intro i I w hI hK hS
    have hI : I = -1 := hI
    subst hI
    clear hK hS
    go_enter Tryd.func47, Tryd.ntmps47
    go_wp2
    go_ret
    exact ⟨_, .nil, rfl, rfl, rfl, (fun g hg => by cases hg), (fun p hp => by cases hp), Mod.refl _ _⟩
  | node g0 p pl l r ihl ihr =>
    intro i I w hI hK hS
    have hI2 : I = (i : Int) := hI
    clear hI
    subst hI2
    obtain ⟨x, hxr, hxp⟩ := hS 0 _ rfl
    rw [Nat.add_zero] at hxr
    have hil := (List.getElem?_eq_some_iff.1 hxr).1
    obtain ⟨gb, cap, e5, -, -⟩ := hK.own.form (by omega)
    injection e5 with e5 e6 e7
    subst e5
    have hkc := fun (j : Nat) (hj : j < 4) => (hK.cell hn hxr (j := j) hj).1
    have hok := hK.ok x (List.mem_of_getElem? hxr)
    have hSl := hS.left
    have hSr := hS.right
    obtain ⟨⟨A0, cc0, xs⟩, plx, cl, fu⟩ := x
    simp only [VR.plain, PV.mk.injEq] at hxp
    obtain ⟨exs, epl, ecl, efu⟩ := hxp
    have hxl : xs.length = dims := hok.1.1
    have c0 : w.cell? ⟨gb, i * 4, none⟩ = some (.slice A0 dims cc0) := by
      have h := hkc 0 (by omega)
      rw [Nat.add_zero] at h
      rw [h, ← hxl]; rfl
    have c1 : w.cell? ⟨gb, i * 4 + 1, none⟩ = some (.float .f64 plx) := hkc 1 (by omega)
    have c2 : w.cell? ⟨gb, i * 4 + 2, none⟩ = some (.int .i64 cl) := hkc 2 (by omega)
    have c3 : w.cell? ⟨gb, i * 4 + 3, none⟩ = some (.int .i64 fu) := hkc 3 (by omega)
    have hs0 : Sl w A0 dims 1 (flts xs) := by have := hok.1.2; rw [← hxl]; exact this
    have hi : ¬ n ≤ i := by omega
    have IHL := Lib.hid ihl
    have IHR := Lib.hid ihr
    have HN := Lib.hid hK
    have HS := Lib.hid hs0
    have HE := Lib.hid (And.intro exs (And.intro epl (And.intro ecl (And.intro efu (And.intro hxl (And.intro hSl hSr))))))
    clear ihl ihr hK hS hxr hkc hok hSl hSr exs epl ecl efu hxl hs0 e6 e7 hil hn
    go_enter Tryd.func47, Tryd.ntmps47
    go_wp2_with fail
    go_cut [6] from 19 to 27 (fun q wx => ∃ g A2 c2, q = .pointer (some ⟨g, 0, none⟩) ∧ w.heap.size + 1 ≤ g ∧ Blk wx g 92 (vnodeCells ⟨A2, c2, xs⟩ plx (.pointer none) (.pointer none)) ∧ (TP.Ok wx dims ⟨A2, c2, xs⟩ ∧ ∀ b o, A2 = some ⟨b, o, none⟩ → w.heap.size ≤ b ∧ b < g) ∧ Mod (fun _ => False) (w.alloc (.cells #[.slice A0 dims cc0, .float .f64 plx, .int .i64 cl, .int .i64 fu] 37)) wx)
    case first =>
      clear c0 c1 c2 c3
      have B0 := (Blk.new' w #[.slice A0 dims cc0, .float .f64 plx, .int .i64 cl, .int .i64 fu] 37).drew
      have hb0 := B0.lt
      have K4 : ∀ w' : World, Blk w' w.heap.size 37 [.slice A0 dims cc0, .float .f64 plx, .int .i64 cl, .int .i64 fu] → (fun w' => w'.cell? ⟨w.heap.size, 0, none⟩ = some (.slice A0 dims cc0) ∧ w'.cell? ⟨w.heap.size, 1, none⟩ = some (.float .f64 plx)) w' := fun w' h => ⟨h.at (i := 0) rfl, h.at (i := 1) rfl⟩
      have HB0 := Lib.hid B0
      have HK4 := Lib.hid K4
      clear B0 K4
      go_region_held3 (fun w' => w'.cell? ⟨w.heap.size, 0, none⟩ = some (.slice A0 dims cc0) ∧ w'.cell? ⟨w.heap.size, 1, none⟩ = some (.float .f64 plx)) (first | exact HK4.out _ HB0.out | exact HK4.out _ (HB0.out.mod hma (fun h => h)) | exact HK4.out _ ((HB0.out.mod hma (fun h => h)).alloc _))
        (first
          | (go_at_call 37; refine (floats_any A0 dims cc0 xs _ ((HS.out.alloc _).drew) (by omega) hdm.1).mono ?_; rintro _ w2 ⟨A2, cc2, rfl, hs2, hma, hb2⟩; have hsz := hma.size; rw [show ∀ x : World, x.drew.heap.size = x.heap.size from fun _ => rfl, World.size_alloc] at hsz))
      all_goals
        go_wp2_with fail
        go_meet
        exact ⟨_, A2, cc2, rfl, (by omega), (by have e : vnodeCells ⟨A2, cc2, xs⟩ plx (.pointer none) (.pointer none) = [.iface 78 (.slice A2 dims cc2), .float .f64 plx, .pointer none, .pointer none] := (by unfold vnodeCells TP.iv TP.v; rw [← HE.out.2.2.2.2.1]); rw [e]; exact Blk.new' _ _ _), ⟨⟨HE.out.2.2.2.2.1, by show Sl _ A2 xs.length 1 _; rw [HE.out.2.2.2.2.1]; exact hs2.alloc _⟩, fun b o e => ⟨by have h3 := hb2 b o e; rw [show ∀ x : World, x.drew.heap.size = x.heap.size from fun _ => rfl, World.size_alloc] at h3; omega, hs2.far (by omega) hdm.1 b o e⟩⟩, (((Mod.refl _ _).drew).trans hma).alloc _⟩
    case rest =>
      obtain ⟨g, A2, C2, rfl, hg, hb, hok2, hm⟩ := hcut
      have hB0 : Blk wc w.heap.size 37 [.slice A0 dims cc0, .float .f64 plx, .int .i64 cl, .int .i64 fu] := (Blk.new' w #[.slice A0 dims cc0, .float .f64 plx, .int .i64 cl, .int .i64 fu] 37).mod hm (fun h => h)
      have hmw : Mod (fun _ => False) w wc := ((Mod.refl _ _).alloc _).trans hm
      have hgl := hb.lt
      have j2 := hB0.at (i := 2) rfl
      have j3 := hB0.at (i := 3) rfl
      have K : Hid (Blk wc g 92 (vnodeCells ⟨A2, C2, xs⟩ plx (.pointer none) (.pointer none)) ∧ (TP.Ok wc dims ⟨A2, C2, xs⟩ ∧ ∀ b o, A2 = some ⟨b, o, none⟩ → w.heap.size ≤ b ∧ b < g) ∧ Blk wc w.heap.size 37 [.slice A0 dims cc0, .float .f64 plx, .int .i64 cl, .int .i64 fu] ∧ Mod (fun _ => False) w wc) := ⟨hb, hok2, hB0, hmw⟩
      clear hm hb hok2 hB0 hmw c0 c1 c2 c3
      go_upto_if 30 with fail
      go_cut [] from 30 to 38 (fun wx => ∃ (lv : Option Addr) (t1 : VT), Blk wx g 92 (vnodeCells ⟨A2, C2, xs⟩ plx (.pointer lv) (.pointer none)) ∧ t1.In wx (.pointer lv) ∧ (∀ k ∈ t1.gs, g < k) ∧ (∀ p ∈ t1.pts, p.Ok wx dims ∧ ∀ b o, p.A = some ⟨b, o, none⟩ → w.heap.size ≤ b ∧ b ≠ g) ∧ Blk wx w.heap.size 37 [.slice A0 dims cc0, .float .f64 plx, .int .i64 cl, .int .i64 fu] ∧ TP.Ok wx dims ⟨A2, C2, xs⟩ ∧ Mod (fun _ => False) w wx ∧ t1.T.map TP.xs = l.T.map TP.xs)
      case first =>
        by_cases h1 : (i : Int) < cl
        · go_wp2_with (go_at_call 47; refine (IHL.out (i + 1) cl wc HE.out.2.2.1 (HN.out.mod K.out.2.2.2) HE.out.2.2.2.2.2.1).mono ?_; rintro _ w3 ⟨lv, t1, rfl, ht1, hx1, hg1, hp1, hm1⟩; obtain ⟨q1, rfl⟩ := ht1.ptr; have y2 : w3.cell? ⟨g, 2, none⟩ = some (.pointer none) := ((K.out.1.mod hm1 (fun h => h)).at (i := 2) rfl); have z2 : w3.frozen? ⟨g, 2, none⟩ = false := ((K.out.1.mod hm1 (fun h => h)).frozen 2); have HT := Lib.hid (And.intro ht1 (And.intro hx1 (And.intro hg1 (And.intro hp1 hm1)))); clear ht1 hx1 hg1 hp1 hm1)
          go_meet
          obtain ⟨ht1, hx1, hg1, hp1, hm1⟩ := HT.out
          have b3 := K.out.1.mod hm1 (fun h => h)
          have hsw := K.out.2.2.2.size
          exact ⟨q1, t1, b3.set 2 (.pointer q1), ht1.setOff (fun k hk => by have := hg1 k hk; omega) _, (fun k hk => by have := hg1 k hk; omega), (fun p hp => ⟨(hp1 p hp).1.setAway (fun b o e => by have := (hp1 p hp).2 b o e; omega) _, fun b o e => by have := (hp1 p hp).2 b o e; omega⟩), (K.out.2.2.1.mod hm1 (fun h => h)).other _ (by show g ≠ w.heap.size; omega), (K.out.2.1.1.mod0 hm1).setAway (fun b o e => by have := K.out.2.1.2 b o e; omega) _, (K.out.2.2.2.trans hm1).set (.inr (by show w.heap.size ≤ g; omega)) _, hx1⟩
        · have hnil : l = .nil := VT.at_lt (by rw [← HE.out.2.2.1]; exact h1)
          have HNI := Lib.hid hnil
          clear hnil
          go_wp2_with fail
          go_meet
          exact ⟨none, .nil, K.out.1, rfl, (fun k hk => by cases hk), (fun p hp => by cases hp), K.out.2.2.1, K.out.2.1.1, K.out.2.2.2, by rw [HNI.out]⟩
      case rest =>
        have K0 := Lib.hid K.out.2.1.2
        obtain ⟨lv, t1, hb1, ht1, hg1, hp1, hB1, hok1, hm1, hx1⟩ := hcut
        have q1 := hB1.at (i := 3) rfl
        have hgl2 := hb1.lt
        have hsz := hm1.size
        have K2 : Hid (Blk wc g 92 (vnodeCells ⟨A2, C2, xs⟩ plx (.pointer lv) (.pointer none)) ∧ t1.In wc (.pointer lv) ∧ (∀ k ∈ t1.gs, g < k) ∧ (∀ p ∈ t1.pts, p.Ok wc dims ∧ ∀ b o, p.A = some ⟨b, o, none⟩ → w.heap.size ≤ b ∧ b ≠ g) ∧ TP.Ok wc dims ⟨A2, C2, xs⟩ ∧ Mod (fun _ => False) w wc ∧ t1.T.map TP.xs = l.T.map TP.xs) := ⟨hb1, ht1, hg1, hp1, hok1, hm1, hx1⟩
        clear hb1 ht1 hg1 hp1 hB1 hok1 hm1 hx1 j2 j3
        by_cases h2 : (i : Int) < fu
        · go_wp2_with (go_at_call 47; refine (IHR.out (i + 1 + l.count) fu wc HE.out.2.2.2.1 (HN.out.mod K2.out.2.2.2.2.2.1) HE.out.2.2.2.2.2.2).mono ?_; rintro _ w3 ⟨rv, t2, rfl, ht2, hx2, hg2, hp2, hm2⟩; obtain ⟨q2, rfl⟩ := ht2.ptr; have y3 : w3.cell? ⟨g, 3, none⟩ = some (.pointer none) := ((K2.out.1.mod hm2 (fun h => h)).at (i := 3) rfl); have z3 : w3.frozen? ⟨g, 3, none⟩ = false := ((K2.out.1.mod hm2 (fun h => h)).frozen 3); have HT := Lib.hid (And.intro ht2 (And.intro hx2 (And.intro hg2 (And.intro hp2 hm2)))); clear ht2 hx2 hg2 hp2 hm2)
          go_ret
          obtain ⟨ht2, hx2, hg2, hp2, hm2⟩ := HT.out
          obtain ⟨e1, e2, e3, e4, e5, e6, e7⟩ := K2.out
          have b3 := e1.mod hm2 (fun h => h)
          refine ⟨_, .node g ⟨A2, C2, xs⟩ plx t1 t2, rfl, ⟨rfl, .pointer lv, .pointer q2, b3.set 3 (.pointer q2), (e2.mod hm2 (fun _ _ h => h)).setOff e3 _, ht2.setOff (fun k hk => by have := hg2 k hk; omega) _⟩, ?_, ?_, ?_, (e6.trans hm2).set (.inr (by show w.heap.size ≤ g; omega)) _⟩
          · show VB.T.node xs plx (t1.T.map TP.xs) (t2.T.map TP.xs) = VB.T.node p.xs pl (l.T.map TP.xs) (r.T.map TP.xs)
            rw [e7, hx2, HE.out.1, HE.out.2.1]
          · intro k hk
            rcases List.mem_cons.1 hk with rfl | hk
            · omega
            · rcases List.mem_append.1 hk with hk | hk
              · have := e3 k hk; omega
              · have := hg2 k hk; omega
          · intro p' hp'
            rcases List.mem_append.1 hp' with hp' | hp'
            · exact ⟨((e4 p' hp').1.mod0 hm2).setAway (fun b o e => ((e4 p' hp').2 b o e).2) _, fun b o e => ((e4 p' hp').2 b o e).1⟩
            · rcases List.mem_cons.1 hp' with rfl | hp'
              · exact ⟨(e5.mod0 hm2).setAway (fun b o e => by have := K0.out b o e; omega) _, fun b o e => (K0.out b o e).1⟩
              · exact ⟨(hp2 p' hp').1.setAway (fun b o e => by have := (hp2 p' hp').2 b o e; omega) _, fun b o e => by have := (hp2 p' hp').2 b o e; omega⟩
        · have hnil : r = .nil := VT.at_lt2 (by rw [← HE.out.2.2.2.1]; exact h2)
          have HNI := Lib.hid hnil
          clear hnil
          go_wp2_with fail
          go_ret
          obtain ⟨e1, e2, e3, e4, e5, e6, e7⟩ := K2.out
          refine ⟨_, .node g ⟨A2, C2, xs⟩ plx t1 .nil, rfl, ⟨rfl, .pointer lv, .pointer none, e1, e2, rfl⟩, ?_, ?_, ?_, e6⟩
          · show VB.T.node xs plx (t1.T.map TP.xs) .nil = VB.T.node p.xs pl (l.T.map TP.xs) (r.T.map TP.xs)
            rw [e7, HE.out.1, HE.out.2.1, HNI.out]; rfl
          · intro k hk
            rcases List.mem_cons.1 hk with rfl | hk
            · omega
            · rcases List.mem_append.1 hk with hk | hk
              · have := e3 k hk; omega
              · cases hk
          · intro p' hp'
            rcases List.mem_append.1 hp' with hp' | hp'
            · exact ⟨(e4 p' hp').1, fun b o e => ((e4 p' hp').2 b o e).1⟩
            · rcases List.mem_cons.1 hp' with rfl | hp'
              · exact ⟨e5, fun b o e => (K0.out b o e).1⟩
              · cases hp'
end Go.Proofs.YtpamoleocjdjiaaDoor

namespace Lox
open Go Go.RowKit
set_option linter.unusedVariables false

/-- A distance's word: infinite, or finite from 0 on. -/
def Wd (x : Nat) : Prop := x = INFB ∨ (Fw x ∧ 0 ≤ vl x)

theorem fw_ne_inf {x : Nat} (h : Fw x) : x ≠ INFB := by
  rintro rfl
  obtain ⟨s, m, i, e⟩ := h
  rw [inf_dec] at e
  cases e

theorem fw_nan {x : Nat} (h : Fw x) : (FloatKind.f64.decode x).isNaN = false ∧ (FloatKind.f64.decode x == .infinity true) = false := by
  obtain ⟨s, m, i, e⟩ := h
  rw [e]
  exact ⟨rfl, rfl⟩

/-- An infinite distance is not below a finite one. -/
theorem inf_lt {y : Nat} (h : Fw y) : (FloatKind.f64.format.order INFB y == some .lt) = false := by
  obtain ⟨s, m, i, e⟩ := h
  show ((FloatKind.f64.decode INFB).order (FloatKind.f64.decode y) == some .lt) = false
  rw [inf_dec, e]
  rfl

theorem fw_inf_lt {y : Nat} (h : Fw y) : (FloatKind.f64.format.order y INFB == some .lt) = true := by
  obtain ⟨s, m, i, e⟩ := h
  show ((FloatKind.f64.decode y).order (FloatKind.f64.decode INFB) == some .lt) = true
  rw [inf_dec, e]
  rfl

theorem vl_zero_of {x : Nat} (h : Fw x) (hz : (FloatKind.f64.decode x).isZero = true) : vl x = 0 := by
  obtain ⟨s, m, i, e⟩ := h
  rw [e] at hz
  have hm : m = 0 := by
    cases m with
    | zero => rfl
    | succ m => exact absurd hz (by simp [Ieee.Datum.isZero])
  subst hm
  unfold vl; rw [e]; simp [dv]

/-- The lesser of two distances, the second finite. -/
theorem wd_min {x y : Nat} (hx : Wd x) (hy : Fw y) (y0 : 0 ≤ vl y) : ∃ r, Extern.MathDim.pick "math.archMin" true .lt #[.float .f64 x, .float .f64 y] = pure (.float .f64 r) ∧ Fw r ∧ 0 ≤ vl r ∧ vl r ≤ vl y ∧ (x ≠ INFB → vl r ≤ vl x) ∧ (r = x ∨ r = y) := by
  have key : ∀ a b, FloatKind.f64.decode x = a → FloatKind.f64.decode y = b → Extern.MathDim.pick "math.archMin" true .lt #[.float .f64 x, .float .f64 y] = pure (.float .f64 (if a == .infinity true || b == .infinity true then FloatKind.f64.encode (.infinity true) else if a.isNaN || b.isNaN then 0x7FF8000000000001 else if a.isZero && b.isZero then (if a.neg == true then x else y) else if a.order b == some .lt then x else y)) := by
    rintro a b rfl rfl
    rfl
  rw [key _ _ rfl rfl]
  have ny := fw_nan hy
  rcases hx with rfl | ⟨fx, x0⟩
  · have e1 : (FloatKind.f64.decode INFB == .infinity true) = false := by rw [inf_dec]; decide
    have e2 : (FloatKind.f64.decode INFB).isNaN = false := by rw [inf_dec]; rfl
    have e3 : (FloatKind.f64.decode INFB).isZero = false := by rw [inf_dec]; rfl
    have e4 : ((FloatKind.f64.decode INFB).order (FloatKind.f64.decode y) == some .lt) = false := inf_lt hy
    simp only [e1, e2, e3, e4, ny.1, ny.2, Bool.or_false, Bool.false_and, Bool.false_eq_true, if_false]
    exact ⟨y, rfl, hy, y0, Rat.le_refl, fun h => absurd rfl h, .inr rfl⟩
  · have nx := fw_nan fx
    have ho : ((FloatKind.f64.decode x).order (FloatKind.f64.decode y) == some .lt) = decide (vl x < vl y) := or_lt fx hy
    simp only [nx.1, nx.2, ny.1, ny.2, Bool.or_false, Bool.false_eq_true, if_false, ho]
    by_cases hz : ((FloatKind.f64.decode x).isZero && (FloatKind.f64.decode y).isZero) = true
    · rw [if_pos hz]
      rw [Bool.and_eq_true] at hz
      have v1 := vl_zero_of fx hz.1
      have v2 := vl_zero_of hy hz.2
      split
      · exact ⟨x, rfl, fx, x0, by rw [v1, v2]; exact Rat.le_refl, fun _ => Rat.le_refl, .inl rfl⟩
      · exact ⟨y, rfl, hy, y0, Rat.le_refl, fun _ => by rw [v1, v2]; exact Rat.le_refl, .inr rfl⟩
    · rw [if_neg hz]
      by_cases h : vl x < vl y
      · rw [decide_eq_true h]
        exact ⟨x, rfl, fx, x0, Rat.le_of_lt h, fun _ => Rat.le_refl, .inl rfl⟩
      · rw [decide_eq_false h]
        exact ⟨y, rfl, hy, y0, Rat.le_refl, fun _ => Rat.not_lt.1 h, .inr rfl⟩

/-- What is passed over on the further side is no nearer than what has been found, but for 2^-32. -/
theorem prune_far {R d r u : Nat} {s c : Int} (hR : Dst R s) (hd : Dst d c) (hc : 0 ≤ c ∧ c ≤ 33554432) (hr : Fw r) (r0 : 0 ≤ vl r) (r1 : vl r ≤ 8192) (hu : Ieee.double.add d r = some u) (hb : (FloatKind.f64.format.order u R == some .gt || FloatKind.f64.format.order u R == some .eq) = false)
    {dx : Nat} {b m : Int} (hx : Dst dx b) (hbb : 0 ≤ b ∧ b ≤ 33554432) (h1 : s ≤ b + c + 2 * m) (h2 : m * m ≤ b * c) : vl r ≤ vl dx + 1 / 4294967296 := by
  have db := dst_big hd hc.2 hc.1
  have d0 := hd.2.1
  have habs : (vl d + vl r).abs = vl d + vl r := Rat.abs_of_nonneg (by grind)
  obtain ⟨u', hu', fu, hv, _⟩ := add_ok hd.1 hr (by rw [habs]; exact big_p2 (by grind))
  rw [hu] at hu'
  cases hu'
  rw [or_ge fu hR.1] at hb
  have hlt := Rat.not_le.1 (of_decide_eq_false hb)
  have t := tri hR hx hd h1 h2 hbb.1 hc.1 hbb.2 hc.2
  have p1 := p2_1075_le
  rw [p2_53, habs] at hv
  have h3 := abs_le_iff.1 hv
  grind

/-- What is passed over on the closer side is no nearer than what has been found, but for 2^-32. -/
theorem prune_near {R d r u : Nat} {s a : Int} (hR : Dst R s) (hs : 0 ≤ s ∧ s ≤ 33554432) (hd : Dst d a) (ha : 0 ≤ a ∧ a ≤ 33554432) (hr : Fw r) (r0 : 0 ≤ vl r) (r1 : vl r ≤ 8192) (hu : Ieee.double.sub d r = some u) (hb : (FloatKind.f64.format.order u R == some .lt || FloatKind.f64.format.order u R == some .eq) = false)
    {dx : Nat} {b m : Int} (hx : Dst dx b) (hbb : 0 ≤ b ∧ b ≤ 33554432) (h1 : a ≤ b + s + 2 * m) (h2 : m * m ≤ b * s) : vl r ≤ vl dx + 1 / 4294967296 := by
  have db := dst_big hd ha.2 ha.1
  have d0 := hd.2.1
  have habs : (vl d - vl r).abs ≤ 16384 := abs_le_iff.2 (by constructor <;> grind)
  obtain ⟨u', hu', fu, hv, _⟩ := sub_ok hd.1 hr (big_p2 (by grind))
  rw [hu] at hu'
  cases hu'
  rw [or_le fu hR.1] at hb
  have hlt := Rat.not_le.1 (of_decide_eq_false hb)
  have t := tri hd hx hR h1 h2 hbb.1 hs.1 hbb.2 hs.2
  have p1 := p2_1075_le
  rw [p2_53] at hv
  have h3 := abs_le_iff.1 hv
  have h4 : (vl d - vl r).abs * (1 / 9007199254740992) ≤ 1 / 274877906944 := by
    have hn : 0 ≤ (vl d - vl r).abs := Rat.abs_nonneg
    grind
  grind
end Lox
namespace Go.Proofs.YtpamoleocjdjiaaDoor
open Go.RowKit Lox
set_option linter.unusedVariables false
attribute [local go_sem] run_store_flt run_store_fn

theorem run_wmin (x y : Nat) (hx : Wd x) (hy : Fw y) (y0 : 0 ≤ vl y) : ∃ r, (Fw r ∧ 0 ≤ vl r ∧ vl r ≤ vl y ∧ (x ≠ INFB → vl r ≤ vl x) ∧ (r = x ∨ r = y)) ∧ ∀ w : World, (callFunc 67 #[.float .f64 x, .float .f64 y]).run Tryd.prog w = .ok (.value (.float .f64 r)) w := by
  obtain ⟨r, h1, h2⟩ := wd_min hx hy y0
  refine ⟨r, h2, fun w => ?_⟩
  rw [run_callFunc_extern Tryd.func67 (by kernel_rfl) (by kernel_rfl) (by kernel_rfl) (e := Extern.MathDim.pick "math.archMin" true .lt) (by kernel_rfl), h1]
  rfl

set_option maxHeartbeats 400000 in
theorem wmin_at (x y : Nat) (w : World) (hx : Wd x) (hy : Fw y) (y0 : 0 ≤ vl y) : Calls Tryd.prog 60 #[.float .f64 x, .float .f64 y] w fun e' w' => (∃ r, e' = .returned (.float .f64 r) ∧ Fw r ∧ 0 ≤ vl r ∧ vl r ≤ vl y ∧ (x ≠ INFB → vl r ≤ vl x) ∧ (r = x ∨ r = y)) ∧ w = w' := by
  obtain ⟨r, h1, hf⟩ := run_wmin x y hx hy y0
  have H1 := Lib.hid h1
  clear h1 hx hy
  go_enter Tryd.func60, Tryd.ntmps60
  go_wp2
  go_ret
  exact ⟨⟨r, rfl, H1.out⟩, rfl⟩

/-- What has been found so far, of those that were looked at or passed over (vis), in a tree of points 'all'. -/
structure NS (w : World) (dims : Nat) (q : TP) (all vis : List TP) (δ : Nat) (nv : Value) (r : Nat) : Prop where
  fw : Fw r
  nn : 0 ≤ vl r
  big : vl r ≤ 8192
  le : δ ≠ INFB → vl r ≤ vl δ
  ptr : ∃ a, nv = .pointer a
  seen : ∀ x ∈ vis, ∀ dx, Dst dx (vsq dims q x) → vl r ≤ vl dx + 1 / 4294967296
  is : (δ = INFB ∨ vl r < vl δ) → ∃ p ∈ all, Dst r (vsq dims q p) ∧ ∃ g rr lv fv, nv = .pointer (some ⟨g, 0, none⟩) ∧ Blk w g 92 (vnodeCells p rr lv fv)

/-- What search tells. -/
def VsTold (dims : Nat) (q : TP) (t : VT) (δ : Nat) (w : World) (e : Ending) (w' : World) : Prop :=
  ∃ nv r, e = .returned (.tuple #[nv, .float .f64 r]) ∧ (∃ a, nv = .pointer a) ∧ ((t = .nil ∧ r = INFB) ∨ NS w' dims q t.pts t.pts δ nv r) ∧ Mod (fun _ => False) w w'

theorem NS.mod {w w' : World} {dims : Nat} {q : TP} {all vis : List TP} {δ r : Nat} {nv : Value} (h : NS w dims q all vis δ nv r) (hm : Mod (fun _ => False) w w') : NS w' dims q all vis δ nv r :=
  ⟨h.fw, h.nn, h.big, h.le, h.ptr, h.seen, fun k => by
    obtain ⟨p, hp, hd, g, rr, lv, fv, e, hb⟩ := h.is k
    exact ⟨p, hp, hd, g, rr, lv, fv, e, hb.mod hm (fun h => h)⟩⟩

/-- The node itself. -/
theorem NS.start {w : World} {dims g rr δ d r : Nat} {q p : TP} {lv fv : Value} {all : List TP} (hb : Blk w g 92 (vnodeCells p rr lv fv)) (hp : p ∈ all) (hd : Dst d (vsq dims q p)) (hc : 0 ≤ vsq dims q p ∧ vsq dims q p ≤ 33554432)
    (h : Fw r ∧ 0 ≤ vl r ∧ vl r ≤ vl d ∧ (δ ≠ INFB → vl r ≤ vl δ) ∧ (r = δ ∨ r = d)) : NS w dims q all [p] δ (.pointer (some ⟨g, 0, none⟩)) r := by
  obtain ⟨h1, h2, h3, h4, h5⟩ := h
  refine ⟨h1, h2, ?_, h4, ⟨_, rfl⟩, fun x hx dx hdx => ?_, fun k => ⟨p, hp, ?_, g, rr, lv, fv, rfl, hb⟩⟩
  · have := dst_big hd hc.2 hc.1
    grind
  · rw [List.mem_singleton.1 hx] at hdx
    have := dst_near hd hdx hc.2 hc.1
    grind
  · rcases h5 with h5 | h5
    · rcases k with k | k
      · rw [h5, k] at h1; exact absurd rfl (fw_ne_inf h1)
      · rw [h5] at k; exact absurd k (Rat.not_lt.2 Rat.le_refl)
    · rw [h5]; exact hd

/-- A side has been searched, and something nearer was found there. -/
theorem NS.better {w : World} {dims δ r ra : Nat} {q : TP} {all vis sub : List TP} {nv na : Value} (h : NS w dims q all vis δ nv r) (k : NS w dims q sub sub r na ra) (hs : ∀ p ∈ sub, p ∈ all) (hlt : vl ra < vl r) : NS w dims q all (vis ++ sub) δ na ra := by
  refine ⟨k.fw, k.nn, k.big, fun hd => ?_, k.ptr, fun x hx dx hdx => ?_, fun _ => ?_⟩
  · have := h.le hd; grind
  · rcases List.mem_append.1 hx with hx | hx
    · have := h.seen x hx dx hdx; grind
    · exact k.seen x hx dx hdx
  · obtain ⟨p, hp, rest⟩ := k.is (.inr hlt)
    exact ⟨p, hs p hp, rest⟩

/-- A side has been searched, and nothing nearer was found there. -/
theorem NS.same {w : World} {dims δ r ra : Nat} {q : TP} {all vis sub : List TP} {nv na : Value} (h : NS w dims q all vis δ nv r) (k : NS w dims q sub sub r na ra) (hlt : ¬ vl ra < vl r) : NS w dims q all (vis ++ sub) δ nv r := by
  refine ⟨h.fw, h.nn, h.big, h.le, h.ptr, fun x hx dx hdx => ?_, h.is⟩
  rcases List.mem_append.1 hx with hx | hx
  · exact h.seen x hx dx hdx
  · have := k.seen x hx dx hdx; grind

/-- A side is passed over. -/
theorem NS.over {w : World} {dims δ r : Nat} {q : TP} {all vis sub : List TP} {nv : Value} (h : NS w dims q all vis δ nv r) (hs : ∀ x ∈ sub, ∀ dx, Dst dx (vsq dims q x) → vl r ≤ vl dx + 1 / 4294967296) : NS w dims q all (vis ++ sub) δ nv r := by
  refine ⟨h.fw, h.nn, h.big, h.le, h.ptr, fun x hx dx hdx => ?_, h.is⟩
  rcases List.mem_append.1 hx with hx | hx
  · exact h.seen x hx dx hdx
  · exact hs x hx dx hdx

theorem NS.vis {w : World} {dims δ r : Nat} {q : TP} {all vis vis' : List TP} {nv : Value} (h : NS w dims q all vis δ nv r) (hv : ∀ x ∈ vis', x ∈ vis) : NS w dims q all vis' δ nv r :=
  ⟨h.fw, h.nn, h.big, h.le, h.ptr, fun x hx => h.seen x (hv x hx), h.is⟩
end Go.Proofs.YtpamoleocjdjiaaDoor
