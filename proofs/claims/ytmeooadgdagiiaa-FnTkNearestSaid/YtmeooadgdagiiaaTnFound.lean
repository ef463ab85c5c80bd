/- The walk of tFound. Conditions: as it says. -/
import Derived.Test.YtmeooadgdagiiaaTnAmong
import Derived.Test.YtmeooadgdagiiaaTnAll
import Derived.Deep.RegionHeld3
import Derived.Deep.DrawnRows
namespace Go.Proofs.Ytmeooadgdagiiaa
open Go.RowKit Lox
set_option linter.unusedVariables false
attribute [local go_sem] run_store_flt run_store_fn

/-- What was found: points, each with its number, in a row. -/
structure FRows (w : World) (F : Option Addr) (n : Nat) (fs : List (TP × Nat)) : Prop where
  len : fs.length = n
  cells : 0 < n → ∃ b o, F = some ⟨b, o, none⟩ ∧ ∀ i x, fs[i]? = some x → w.cell? ⟨b, o + i * 2, none⟩ = some x.1.v ∧ w.cell? ⟨b, o + i * 2 + 1, none⟩ = some (.float .f64 x.2)

theorem FRows.mod {w w' : World} {F : Option Addr} {n : Nat} {fs : List (TP × Nat)} (h : FRows w F n fs) (hm : Mod (fun _ => False) w w') : FRows w' F n fs := by
  refine ⟨h.len, fun h0 => ?_⟩
  obtain ⟨b, o, e, hc⟩ := h.cells h0
  exact ⟨b, o, e, fun i x hx => ⟨(hm.cell (lt_of_cell (hc i x hx).1) (fun h => h)).trans (hc i x hx).1, (hm.cell (lt_of_cell (hc i x hx).2) (fun h => h)).trans (hc i x hx).2⟩⟩

/-- The loop's state. -/
structure GT (w w' : World) (v : Value) (k : Nat) (gs : List TP) : Prop where
  own : w'.ownsRow w.heap.size 26 1 v k (gs.map TP.v)
  mod : Mod (fun _ => False) w w'

theorem GT.step {w w' w1 w3 : World} {v : Value} {k g cap : Nat} {gs : List TP} {p : TP} (h : GT w w' v k gs) (h1 : Mod (fun _ => False) w' w1) {o : Obj} (hown : w3.ownsRow w.heap.size 26 1 (.slice (some ⟨g, 0, none⟩) (k + 1) cap) (k + 1) (gs.map TP.v ++ [p.v])) (hgrow : (w1.alloc o).grownBy w3 v.ownBlock) : GT w w3 (.slice (some ⟨g, 0, none⟩) (k + 1) cap) (k + 1) (gs ++ [p]) := by
  refine ⟨by rw [List.map_append]; exact hown, ((h.mod.trans h1).alloc o).grown hgrow (fun j e hj => by have := (own_block h.own e).1; omega)⟩

theorem GT.rows {w w' : World} {v : Value} {n : Nat} {gs : List TP} (h : GT w w' v n gs) : ∃ A c, v = .slice A n c ∧ Sl w' A n 1 (gs.map TP.v) := by
  have h2 := h.own
  have h3 : AllTold gs [] n w (.returned v) w' := own_told (by rw [List.append_nil]; exact h2) h.mod
  obtain ⟨A, c, e, hs, -, -⟩ := h3
  injection e with e
  rw [List.append_nil] at hs
  exact ⟨A, c, e, hs⟩

set_option maxRecDepth 100000 in
set_option maxHeartbeats 8000000 in
theorem found_at (F I W : Option Addr) (n cF m ci cw dims : Nat) (fs : List (TP × Nat)) (ps : List TP) (q : TP) (ws : List Nat) (w : World) (hF : FRows w F n fs) (hf : ∀ x ∈ fs, x.1.Rd w ∧ x.1.xs.length = dims ∧ x.1.Gr) (hW : Sl w W n 1 (flts ws)) (hw : ∀ (i : Nat) (x : TP × Nat) (y : Nat), fs[i]? = some x → ws[i]? = some y → Gd 0 x.2 (sqx x.1.xs q.xs dims) ∧ Gd 0 y (sqx x.1.xs q.xs dims))
    (hp : PRows w I m ps dims) (gp : ∀ p ∈ ps, p.Gr) (hq : q.Ok w dims) (gq : q.Gr) (hc : ∀ κ, ((fs.map (·.1)).map TP.key).count κ ≤ (ps.map TP.key).count κ) (hn : n ≤ 2147483647 ∧ m ≤ 2147483647) (hdm : dims ≤ 4) :
    Calls Try.prog 23 #[.slice F n cF, .slice I m ci, .slice q.A dims q.c, .slice W n cw] w fun e w' => e = .returned (.bool true) ∧ Mod (fun _ => False) w w' := by
  obtain ⟨i0, hi0, hz0, hz1, hz2⟩ := info_parts info_floats
  have HI := Lib.hid (And.intro hi0 (And.intro hz0 (And.intro hz1 hz2)))
  clear hi0 hz0 hz1 hz2
  have hwl : ws.length = n := by have := hW.1; simpa [flts] using this
  have HH := Lib.hid (And.intro hF (And.intro hf (And.intro hW (And.intro hw (And.intro hp (And.intro gp (And.intro hq (And.intro gq (And.intro hc hwl)))))))))
  clear hF hf hW hw hp gp hq gq hc hwl
  go_enter Try.func23, Try.ntmps23
  go_wp2
  go_loopw [9, 19] (fun v i wr => ∃ k : Nat, k ≤ n ∧ i = .int .i64 k ∧ Hid (GT w wr v k ((fs.take k).map (·.1)))) (fun _ i _ => n - (intOf i).toNat)
  case atStart => exact ⟨0, Nat.zero_le _, rfl, World.ownsRow_nil _ _ _ _, Mod.refl _ _⟩
  case round =>
    obtain ⟨k, hk, rfl, HR⟩ := hrel
    by_cases hlt : k < n
    · have hfr := HH.out.1.mod HR.out.mod
      obtain ⟨b, o, eF, hcl⟩ := hfr.cells (by omega)
      have hk2 : k < fs.length := by rw [HH.out.1.len]; exact hlt
      obtain ⟨x, ex⟩ : ∃ x, x = fs[k] := ⟨_, rfl⟩
      have hxk : fs[k]? = some x := by rw [ex]; exact List.getElem?_eq_getElem hk2
      have hTK : fs.take (k + 1) = fs.take k ++ [x] := by rw [List.take_succ_eq_append_getElem hk2, ex]
      obtain ⟨c0, c1⟩ := hcl k x hxk
      obtain ⟨hrd, hpl, hpg⟩ := HH.out.2.1 x (List.mem_of_getElem? hxk)
      obtain ⟨b2, o2, v2, e2, f2, d2⟩ := (HH.out.2.2.1.mod HR.out.mod).at1 hlt
      have hw2 : k < ws.length := by rw [HH.out.2.2.2.2.2.2.2.2.2]; exact hlt
      rw [flts_getD hw2] at f2
      cases f2
      have hwk : ws[k]? = some (ws.getD k 0) := by simp [hw2]
      obtain ⟨g1, g2⟩ := HH.out.2.2.2.1 k x _ hxk hwk
      obtain ⟨p, d⟩ := x
      have hpl : p.xs.length = dims := hpl
      have c0' : wr.cell? ⟨b, o + k * 2, none⟩ = some (.slice p.A dims p.c) := by rw [c0, ← hpl]; rfl
      have c1' : wr.cell? ⟨b, o + k * 2 + 1, none⟩ = some (.float .f64 d) := c1
      generalize ws.getD k 0 = y at d2 g2
      have q1 := g1.eq g2
      rw [decide_eq_true rfl] at q1
      have HS := Lib.hid (And.intro (show p.Ok wr dims from ⟨hpl, (hrd.mod HR.out.mod).1⟩) (And.intro hpg (And.intro hTK (And.intro g2 hpl))))
      subst eF e2
      clear hfr hcl hk2 ex hxk hTK c0 c1 hrd hpl hpg hw2 hwk g1 g2
      have i0' : (0 : Int) ≤ k := by omega
      have i1' : (k : Int) < n := by omega
      have q1n : (FloatKind.f64.format.order d y != some .eq) = false := by rw [bne, q1]; rfl
      obtain ⟨o1, ho1⟩ : ∃ o1, o1 = Obj.cells #[.slice p.A dims p.c, .float .f64 d] 51 := ⟨_, rfl⟩
      have B1 : Blk (wr.alloc o1) wr.heap.size 51 [.slice p.A dims p.c, .float .f64 d] := by rw [ho1]; exact Blk.new' wr _ _
      have y0 := B1.at (i := 0) rfl
      have y1 := B1.at (i := 1) rfl
      have y2 : (wr.alloc o1).cell? ⟨b2, o2 + k, none⟩ = some (.float .f64 y) := (World.cell?_alloc_past _ _ _ (lt_of_cell d2)).trans d2
      have HY := Lib.hid (And.intro y0 (And.intro y1 y2))
      rw [ho1] at HY
      have hd0 : decide ((dims : Int) = dims) = true := decide_eq_true rfl
      clear B1 y0 y1 y2 ho1
      go_wp2_with fail
      go_region_held3 (fun w' => w'.cell? ⟨wr.heap.size, 0, none⟩ = some (.slice p.A dims p.c) ∧ w'.cell? ⟨wr.heap.size, 1, none⟩ = some (.float .f64 d) ∧ w'.cell? ⟨b2, o2 + k, none⟩ = some (.float .f64 y)) (first | exact HY.out)
        (first | (go_at_call 51; refine (square_at _ dims p q (HS.out.1.mod0 (by first | exact (((Mod.refl _ _).alloc _).drewN _).drew | exact ((Mod.refl _ _).alloc _).drewN _)) (HH.out.2.2.2.2.2.2.1.mod0 (HR.out.mod.trans (by first | exact (((Mod.refl _ _).alloc _).drewN _).drew | exact ((Mod.refl _ _).alloc _).drewN _))) HS.out.2.1 HH.out.2.2.2.2.2.2.2.1 hdm).mono ?_; rintro _ w1 ⟨⟨r, rfl, hr⟩, m1, rfl⟩; have q2 : (FloatKind.f64.format.order r y == some .eq) = true := (hr.eq HS.out.2.2.2.1).trans (decide_eq_true rfl); have q2n : (FloatKind.f64.format.order r y != some .eq) = false := (by rw [bne, q2]; rfl); clear hr))
      obtain ⟨W5, eW5⟩ : ∃ W5, W5 = (wr.alloc (Obj.cells #[.slice p.A dims p.c, .float .f64 d] 51)).drewN (1 + m1) := ⟨_, rfl⟩
      rw [← eW5]
      have hm5 : Mod (fun _ => False) wr W5 := by rw [eW5]; exact ((Mod.refl _ _).alloc _).drewN _
      have y0 : W5.cell? ⟨wr.heap.size, 0, none⟩ = some (.slice p.A dims p.c) := by rw [eW5]; exact HY.out.1
      have HM5 := Lib.hid hm5
      clear hm5 eW5 q1 q1n q2 q2n
      have hkl : ((fs.take k).map (·.1)).length = k := by rw [List.length_map, List.length_take, HH.out.1.len]; omega
      have HKL := Lib.hid hkl
      clear hkl
      go_wp2_with (at_builtin; go_loud (refine wpList_append_lies _ (by rfl) (.tmp 50) (.tmp 53) 22 (by rfl) w.heap.size 26 i0 _ 1 24 Try.underlying22 HI.out.1 HI.out.2.1 HI.out.2.2.1 HI.out.2.2.2 rfl (by omega) u9 k (((fs.take k).map (·.1)).map TP.v) (by rfl) ((HR.out.own.kept HM5.out.grownBy (Decidable.em _)).alloc _) ⟨W5.heap.size, 0, none⟩ 1 1 [.slice p.A dims p.c] (by rfl) (by rfl) (World.news_of_block (cs := #[.slice p.A dims p.c]) (t := 26) (fr := (0, 0)) (heap_alloc_new W5 _)) (by simp [Value.oneCell']) (by omega) (by unfold maxLen; omega) (by omega) (by have := HR.out.mod.size; have := HM5.out.size; simp; omega) (W5.heap.size + 1) (by simp) ?_; intro gg cap w3 hown3 hgrow hat hlt3; have HG := Lib.hid (And.intro hown3 (And.intro hgrow hat)); clear hown3 hgrow hat))
      go_roundw
      case rel =>
        refine ⟨k + 1, by omega, by go_num, ?_⟩
        rw [HS.out.2.2.1, List.map_append]
        refine HR.out.step (p := p) HM5.out ?_ HG.out.2.1
        have h := HG.out.1
        have e : p.v = .slice p.A dims p.c := by rw [← HS.out.2.2.2.2]; rfl
        rw [e]
        exact h
      case measure => simp [intOf]; omega
    · obtain rfl : k = n := by omega
      have h := HR.out
      rw [List.take_of_length_le (by rw [HH.out.1.len]; exact Nat.le_refl _)] at h
      obtain ⟨A, c, rfl, hs⟩ := h.rows
      have HSL := Lib.hid hs
      clear h hs
      go_wp2_with (go_at_call 52; refine (among_at A I k c m ci dims (fs.map (·.1)) ps _ ⟨HSL.out, fun p hp => (by obtain ⟨x, hx, rfl⟩ := List.mem_map.1 hp; exact ⟨(HH.out.2.1 x hx).1.mod HR.out.mod, (HH.out.2.1 x hx).2.1⟩)⟩ (HH.out.2.2.2.2.1.mod HR.out.mod) (fun p hp => (by obtain ⟨x, hx, rfl⟩ := List.mem_map.1 hp; exact (HH.out.2.1 x hx).2.2)) HH.out.2.2.2.2.2.1 hn (by omega) HH.out.2.2.2.2.2.2.2.2.1).mono ?_; rintro _ w2 ⟨rfl, hm2⟩; have HM2 := Lib.hid hm2; clear hm2)
      go_ret
      exact ⟨rfl, HR.out.mod.trans HM2.out⟩
end Go.Proofs.Ytmeooadgdagiiaa
