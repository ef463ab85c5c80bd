/- Steps of a proof, one behind another: The walk of tFound. The walk of SquaresTo. The walk of KNearest. The walk of FnTkRoot: it answers true, and what came in is as it was. Conditions: none on the numbers. Conditions: as each theorem says. -/
import Derived.Test.YtmeooadgdagiiaaMr19
import Derived.Deep.RegionHeld3
import Derived.Deep.DrawnRows
import Derived.Deep.QuietTactic

namespace Go.Proofs.Ytmeooadgdagiiaa
open Go.RowKit Lox
set_option linter.unusedVariables false
attribute [local go_sem] run_store_flt run_store_fn

/-- What was found: points, each with its number, in a row. -/
structure FRows (w : World) (F : Option Addr) (n : Nat) (fs : List (TP × Nat)) : Prop where
  len : fs.length = n
  cells : 0 < n → ∃ b o, F = some ⟨b, o, none⟩ ∧ ∀ i x, fs[i]? = some x → w.cell? ⟨b, o + i * 2, none⟩ = some x.1.v ∧ w.cell? ⟨b, o + i * 2 + 1, none⟩ = some (.float .f64 x.2)

theorem FRows.mod {w w' : World} {F : Option Addr} {n : Nat} {fs : List (TP × Nat)} (h : FRows w F n fs) (hm : Mod (fun _ => False) w w') : FRows w' F n fs := by
  refine ⟨h.len, fun h0 => ?_⟩
  obtain ⟨b, o, e, hc⟩ := h.cells h0
  exact ⟨b, o, e, fun i x hx => ⟨(hm.cell (lt_of_cell (hc i x hx).1) (fun h => h)).trans (hc i x hx).1, (hm.cell (lt_of_cell (hc i x hx).2) (fun h => h)).trans (hc i x hx).2⟩⟩

/-- The loop's state. -/
structure GT (w w' : World) (v : Value) (k : Nat) (gs : List TP) : Prop where
  own : w'.ownsRow w.heap.size 26 1 v k (gs.map TP.v)
  mod : Mod (fun _ => False) w w'

theorem GT.step {w w' w1 w3 : World} {v : Value} {k g cap : Nat} {gs : List TP} {p : TP} (h : GT w w' v k gs) (h1 : Mod (fun _ => False) w' w1) {o : Obj} (hown : w3.ownsRow w.heap.size 26 1 (.slice (some ⟨g, 0, none⟩) (k + 1) cap) (k + 1) (gs.map TP.v ++ [p.v])) (hgrow : (w1.alloc o).grownBy w3 v.ownBlock) : GT w w3 (.slice (some ⟨g, 0, none⟩) (k + 1) cap) (k + 1) (gs ++ [p]) := by
  refine ⟨by rw [List.map_append]; exact hown, ((h.mod.trans h1).alloc o).grown hgrow (fun j e hj => by have := (own_block h.own e).1; omega)⟩

theorem GT.rows {w w' : World} {v : Value} {n : Nat} {gs : List TP} (h : GT w w' v n gs) : ∃ A c, v = .slice A n c ∧ Sl w' A n 1 (gs.map TP.v) := by
  have h2 := h.own
  have h3 : AllTold gs [] n w (.returned v) w' := own_told (by rw [List.append_nil]; exact h2) h.mod
  obtain ⟨A, c, e, hs, -, -⟩ := h3
  injection e with e
  rw [List.append_nil] at hs
  exact ⟨A, c, e, hs⟩

set_option maxRecDepth 100000 in
set_option maxHeartbeats 8000000 in
theorem found_at (F I W : Option Addr) (n cF m ci cw dims : Nat) (fs : List (TP × Nat)) (ps : List TP) (q : TP) (ws : List Nat) (w : World) (hF : FRows w F n fs) (hf : ∀ x ∈ fs, x.1.Rd w ∧ x.1.xs.length = dims ∧ x.1.Gr) (hW : Sl w W n 1 (flts ws)) (hw : ∀ (i : Nat) (x : TP × Nat) (y : Nat), fs[i]? = some x → ws[i]? = some y → Gd 0 x.2 (sqx x.1.xs q.xs dims) ∧ Gd 0 y (sqx x.1.xs q.xs dims))
    (hp : PRows w I m ps dims) (gp : ∀ p ∈ ps, p.Gr) (hq : q.Ok w dims) (gq : q.Gr) (hc : ∀ κ, ((fs.map (·.1)).map TP.key).count κ ≤ (ps.map TP.key).count κ) (hn : n ≤ 2147483647 ∧ m ≤ 2147483647) (hdm : dims ≤ 4) :
    Calls Try.prog 23 #[.slice F n cF, .slice I m ci, .slice q.A dims q.c, .slice W n cw] w fun e w' => e = .returned (.bool true) ∧ Mod (fun _ => False) w w' := by
  obtain ⟨i0, hi0, hz0, hz1, hz2⟩ := info_parts info_floats
  have HI := Lib.hid (And.intro hi0 (And.intro hz0 (And.intro hz1 hz2)))
  clear hi0 hz0 hz1 hz2
  have hwl : ws.length = n := by have := hW.1; simpa [flts] using this
  have HH := Lib.hid (And.intro hF (And.intro hf (And.intro hW (And.intro hw (And.intro hp (And.intro gp (And.intro hq (And.intro gq (And.intro hc hwl)))))))))
  clear hF hf hW hw hp gp hq gq hc hwl
  go_enter Try.func23, Try.ntmps23
  go_wp2
  go_loopw [9, 19] (fun v i wr => ∃ k : Nat, k ≤ n ∧ i = .int .i64 k ∧ Hid (GT w wr v k ((fs.take k).map (·.1)))) (fun _ i _ => n - (intOf i).toNat)
  case atStart => exact ⟨0, Nat.zero_le _, rfl, World.ownsRow_nil _ _ _ _, Mod.refl _ _⟩
  case round =>
    obtain ⟨k, hk, rfl, HR⟩ := hrel
    by_cases hlt : k < n
    · have hfr := HH.out.1.mod HR.out.mod
      obtain ⟨b, o, eF, hcl⟩ := hfr.cells (by omega)
      have hk2 : k < fs.length := by rw [HH.out.1.len]; exact hlt
      obtain ⟨x, ex⟩ : ∃ x, x = fs[k] := ⟨_, rfl⟩
      have hxk : fs[k]? = some x := by rw [ex]; exact List.getElem?_eq_getElem hk2
      have hTK : fs.take (k + 1) = fs.take k ++ [x] := by rw [List.take_succ_eq_append_getElem hk2, ex]
      obtain ⟨c0, c1⟩ := hcl k x hxk
      obtain ⟨hrd, hpl, hpg⟩ := HH.out.2.1 x (List.mem_of_getElem? hxk)
      obtain ⟨b2, o2, v2, e2, f2, d2⟩ := (HH.out.2.2.1.mod HR.out.mod).at1 hlt
      have hw2 : k < ws.length := by rw [HH.out.2.2.2.2.2.2.2.2.2]; exact hlt
      rw [flts_getD hw2] at f2
      cases f2
      have hwk : ws[k]? = some (ws.getD k 0) := by simp [hw2]
      obtain ⟨g1, g2⟩ := HH.out.2.2.2.1 k x _ hxk hwk
      obtain ⟨p, d⟩ := x
      have hpl : p.xs.length = dims := hpl
      have c0' : wr.cell? ⟨b, o + k * 2, none⟩ = some (.slice p.A dims p.c) := by rw [c0, ← hpl]; rfl
      have c1' : wr.cell? ⟨b, o + k * 2 + 1, none⟩ = some (.float .f64 d) := c1
      generalize ws.getD k 0 = y at d2 g2
      have q1 := g1.eq g2
      rw [decide_eq_true rfl] at q1
      have HS := Lib.hid (And.intro (show p.Ok wr dims from ⟨hpl, (hrd.mod HR.out.mod).1⟩) (And.intro hpg (And.intro hTK (And.intro g2 hpl))))
      subst eF e2
      clear hfr hcl hk2 ex hxk hTK c0 c1 hrd hpl hpg hw2 hwk g1 g2
      have i0' : (0 : Int) ≤ k := by omega
      have i1' : (k : Int) < n := by omega
      have q1n : (FloatKind.f64.format.order d y != some .eq) = false := by rw [bne, q1]; rfl
      obtain ⟨o1, ho1⟩ : ∃ o1, o1 = Obj.cells #[.slice p.A dims p.c, .float .f64 d] 51 := ⟨_, rfl⟩
      have B1 : Blk (wr.alloc o1) wr.heap.size 51 [.slice p.A dims p.c, .float .f64 d] := by rw [ho1]; exact Blk.new' wr _ _
      have y0 := B1.at (i := 0) rfl
      have y1 := B1.at (i := 1) rfl
      have y2 : (wr.alloc o1).cell? ⟨b2, o2 + k, none⟩ = some (.float .f64 y) := (World.cell?_alloc_past _ _ _ (lt_of_cell d2)).trans d2
      have HY := Lib.hid (And.intro y0 (And.intro y1 y2))
      rw [ho1] at HY
      have hd0 : decide ((dims : Int) = dims) = true := decide_eq_true rfl
      clear B1 y0 y1 y2 ho1
      go_wp2_with fail
      go_region_held3 (fun w' => w'.cell? ⟨wr.heap.size, 0, none⟩ = some (.slice p.A dims p.c) ∧ w'.cell? ⟨wr.heap.size, 1, none⟩ = some (.float .f64 d) ∧ w'.cell? ⟨b2, o2 + k, none⟩ = some (.float .f64 y)) (first | exact HY.out)
        (first | (go_at_call 51; refine (square_at _ dims p q (HS.out.1.mod0 (by first | exact (((Mod.refl _ _).alloc _).drewN _).drew | exact ((Mod.refl _ _).alloc _).drewN _)) (HH.out.2.2.2.2.2.2.1.mod0 (HR.out.mod.trans (by first | exact (((Mod.refl _ _).alloc _).drewN _).drew | exact ((Mod.refl _ _).alloc _).drewN _))) HS.out.2.1 HH.out.2.2.2.2.2.2.2.1 hdm).mono ?_; rintro _ w1 ⟨⟨r, rfl, hr⟩, m1, rfl⟩; have q2 : (FloatKind.f64.format.order r y == some .eq) = true := (hr.eq HS.out.2.2.2.1).trans (decide_eq_true rfl); have q2n : (FloatKind.f64.format.order r y != some .eq) = false := (by rw [bne, q2]; rfl); clear hr))
      obtain ⟨W5, eW5⟩ : ∃ W5, W5 = (wr.alloc (Obj.cells #[.slice p.A dims p.c, .float .f64 d] 51)).drewN (1 + m1) := ⟨_, rfl⟩
      rw [← eW5]
      have hm5 : Mod (fun _ => False) wr W5 := by rw [eW5]; exact ((Mod.refl _ _).alloc _).drewN _
      have y0 : W5.cell? ⟨wr.heap.size, 0, none⟩ = some (.slice p.A dims p.c) := by rw [eW5]; exact HY.out.1
      have HM5 := Lib.hid hm5
      clear hm5 eW5 q1 q1n q2 q2n
      have hkl : ((fs.take k).map (·.1)).length = k := by rw [List.length_map, List.length_take, HH.out.1.len]; omega
      have HKL := Lib.hid hkl
      clear hkl
      go_wp2_with (at_builtin; go_loud (refine wpList_append_lies _ (by rfl) (.tmp 50) (.tmp 53) 22 (by rfl) w.heap.size 26 i0 _ 1 24 Try.underlying22 HI.out.1 HI.out.2.1 HI.out.2.2.1 HI.out.2.2.2 rfl (by omega) u9 k (((fs.take k).map (·.1)).map TP.v) (by rfl) ((HR.out.own.kept HM5.out.grownBy (Decidable.em _)).alloc _) ⟨W5.heap.size, 0, none⟩ 1 1 [.slice p.A dims p.c] (by rfl) (by rfl) (World.news_of_block (cs := #[.slice p.A dims p.c]) (t := 26) (fr := (0, 0)) (heap_alloc_new W5 _)) (by simp [Value.oneCell']) (by omega) (by unfold maxLen; omega) (by omega) (by have := HR.out.mod.size; have := HM5.out.size; simp; omega) (W5.heap.size + 1) (by simp) ?_; intro gg cap w3 hown3 hgrow hat hlt3; have HG := Lib.hid (And.intro hown3 (And.intro hgrow hat)); clear hown3 hgrow hat))
      go_roundw
      case rel =>
        refine ⟨k + 1, by omega, by go_num, ?_⟩
        rw [HS.out.2.2.1, List.map_append]
        refine HR.out.step (p := p) HM5.out ?_ HG.out.2.1
        have h := HG.out.1
        have e : p.v = .slice p.A dims p.c := by rw [← HS.out.2.2.2.2]; rfl
        rw [e]
        exact h
      case measure => simp [intOf]; omega
    · obtain rfl : k = n := by omega
      have h := HR.out
      rw [List.take_of_length_le (by rw [HH.out.1.len]; exact Nat.le_refl _)] at h
      obtain ⟨A, c, rfl, hs⟩ := h.rows
      have HSL := Lib.hid hs
      clear h hs
      go_wp2_with (go_at_call 52; refine (among_at A I k c m ci dims (fs.map (·.1)) ps _ ⟨HSL.out, fun p hp => (by obtain ⟨x, hx, rfl⟩ := List.mem_map.1 hp; exact ⟨(HH.out.2.1 x hx).1.mod HR.out.mod, (HH.out.2.1 x hx).2.1⟩)⟩ (HH.out.2.2.2.2.1.mod HR.out.mod) (fun p hp => (by obtain ⟨x, hx, rfl⟩ := List.mem_map.1 hp; exact (HH.out.2.1 x hx).2.2)) HH.out.2.2.2.2.2.1 hn (by omega) HH.out.2.2.2.2.2.2.2.2.1).mono ?_; rintro _ w2 ⟨rfl, hm2⟩; have HM2 := Lib.hid hm2; clear hm2)
      go_ret
      exact ⟨rfl, HR.out.mod.trans HM2.out⟩
end Go.Proofs.Ytmeooadgdagiiaa

namespace Go.Proofs.Ytmeooadgdagiiaa
open Go.RowKit Lox
set_option linter.unusedVariables false
attribute [local go_sem] run_store_flt run_store_fn

/-- Numbers that have been laid in order so far, in a row of their own. -/
structure SQ (w w' : World) (v : Value) (k : Nat) (ns : List Int) (ws : List Nat) : Prop where
  own : w'.ownsRow w.heap.size 27 1 v k (flts ws)
  up : Up ws
  gn : ∀ y ∈ ws, Gn y
  perm : (ws.map zv).Perm ns
  mod : Mod (fun _ => False) w w'

theorem SQ.step {w w' w1 w2 : World} {v : Value} {k r : Nat} {ns : List Int} {n : Int} {ws : List Nat} {e : Ending} (h : SQ w w' v k ns ws) (h1 : Mod (fun _ => False) w' w1) (hr : Gd 0 r n) (hw : WithTold w.heap.size k v ws r w1 e w2) :
    ∃ (g cap : Nat) (ws' : List Nat), e = .returned (.slice (some ⟨g, 0, none⟩) (k + 1) cap) ∧ SQ w w2 (.slice (some ⟨g, 0, none⟩) (k + 1) cap) (k + 1) (ns ++ [n]) ws' := by
  obtain ⟨g, cap, i, rfl, a1, a2, a3, a4, a5, a6⟩ := hw
  have hl : ws.length = k := by have := h.own.1; simpa [flts] using this
  have hp := insAt_perm ws r i
  refine ⟨g, cap, insAt ws r i, rfl, a1, insAt_up h.up (by omega) a3 a4, fun y hy => ?_, ?_, (h.mod.trans h1).trans' a5 fun j hj e => ?_⟩
  · rcases List.mem_cons.1 (hp.mem_iff.1 hy) with rfl | hy
    · exact ⟨n, hr⟩
    · exact h.gn y hy
  · refine (hp.map zv).trans ?_
    rw [List.map_cons, zv_eq hr]
    exact (List.Perm.cons n h.perm).trans (List.perm_append_comm (l₁ := [n]) (l₂ := ns))
  · have := (own_block h.own e).1
    omega

/-- What SquaresTo tells. -/
def SqTold (n : Nat) (ns : List Int) (w : World) (e : Ending) (w' : World) : Prop :=
  ∃ (V : Option Addr) (c : Nat) (ws : List Nat), e = .returned (.slice V n c) ∧ Sl w' V n 1 (flts ws) ∧ n ≤ c ∧ c ≤ 9223372036854775807 ∧ Up ws ∧ (∀ y ∈ ws, Gn y) ∧ (ws.map zv).Perm ns ∧ Mod (fun _ => False) w w'

theorem SQ.told {w w' : World} {v : Value} {n : Nat} {ns : List Int} {ws : List Nat} (h : SQ w w' v n ns ws) : SqTold n ns w (.returned v) w' := by
  rcases h.own.2 with ⟨rfl, h0⟩ | ⟨g, cap, cur, rfl, hB, hg, hc, hcm, hsz, ht⟩
  · subst h0
    exact ⟨none, 0, ws, rfl, ⟨by have := h.own.1; simpa using this, fun h => by omega⟩, Nat.le_refl _, by omega, h.up, h.gn, h.perm, h.mod⟩
  · refine ⟨_, _, ws, rfl, ⟨h.own.1, fun _ => ⟨g, 0, rfl, fun j u hu => ?_⟩⟩, hc, by unfold maxLen at hcm; exact hcm, h.up, h.gn, h.perm, h.mod⟩
    rw [Nat.zero_add]
    exact (own_at h.own hu).1

set_option maxHeartbeats 4000000 in
theorem squares_at (A : Option Addr) (n c dims : Nat) (ps : List TP) (q : TP) (w : World) (hp : PRows w A n ps dims) (hg : ∀ p ∈ ps, p.Gr) (hq : q.Ok w dims) (gq : q.Gr) (hn : n ≤ 2147483647) (hdm : dims ≤ 4) :
    Calls Try.prog 24 #[.slice A n c, .slice q.A dims q.c] w (SqTold n (ps.map fun p => sqx p.xs q.xs dims) w) := by
  have HH := Lib.hid (And.intro hp (And.intro hg (And.intro hq gq)))
  clear hp hg hq gq
  go_enter Try.func24, Try.ntmps24
  go_wp2
  go_loopw [5, 10] (fun v i w' => ∃ (k : Nat) (ws : List Nat), k ≤ n ∧ i = .int .i64 k ∧ Hid (SQ w w' v k ((ps.take k).map fun p => sqx p.xs q.xs dims) ws)) (fun _ i _ => n - (intOf i).toNat)
  case atStart => exact ⟨0, [], Nat.zero_le _, rfl, World.ownsRow_nil _ _ _ _, List.Pairwise.nil, fun y hy => (by cases hy), List.Perm.refl _, Mod.refl _ _⟩
  case round =>
    obtain ⟨k, ws, hk, rfl, HR⟩ := hrel
    by_cases hlt : k < n
    · have hpi := HH.out.1.mod HR.out.mod
      obtain ⟨b, o, v0, e1, e2, c1⟩ := hpi.1.at1 hlt
      have hk2 : k < ps.length := by have := hpi.len; omega
      obtain ⟨p, ep⟩ : ∃ p, p = ps[k] := ⟨_, rfl⟩
      have hpm : p ∈ ps := by rw [ep]; exact List.getElem_mem hk2
      have hTK : ps.take (k + 1) = ps.take k ++ [p] := by rw [List.take_succ_eq_append_getElem hk2, ep]
      have e3 : (ps.map TP.v)[k]? = some p.v := by rw [ep]; simp [hk2]
      rw [e3] at e2
      cases e2
      obtain ⟨hrd, hpl⟩ := hpi.2 p hpm
      have c2 : wr.cell? ⟨b, o + k, none⟩ = some (.slice p.A dims p.c) := by rw [c1, ← hpl]; rfl
      have HS := Lib.hid (And.intro (show p.Ok wr dims from ⟨hpl, hrd.1⟩) (And.intro (HH.out.2.2.1.mod0 HR.out.mod) (And.intro (HH.out.2.1 p hpm) hTK)))
      subst e1
      clear hpi ep hpm hTK e3 c1 hrd hpl hk2
      have i0' : (0 : Int) ≤ k := by omega
      have i1' : (k : Int) < n := by omega
      go_wp2_with (first
        | (go_at_call 51; refine (square_at wr dims p q HS.out.1 HS.out.2.1 HS.out.2.2.1 HH.out.2.2.2 hdm).mono ?_; rintro _ w1 ⟨⟨r, rfl, hr⟩, m1, rfl⟩; have H1 := Lib.hid hr; clear hr)
        | (go_at_call 53; refine (with_at w.heap.size k _ ws r _ (HR.out.own.kept (Mod.grownBy ((Mod.refl _ wr).drewN m1)) (Decidable.em _)) (by omega) (HR.out.mod.drewN m1).size HR.out.gn ⟨_, H1.out⟩).mono ?_; rintro _ w2 hw; obtain ⟨g, cap, ws', rfl, hs⟩ := HR.out.step ((Mod.refl _ wr).drewN m1) H1.out hw; have H2 := Lib.hid hs; clear hs hw))
      go_roundw
      case rel =>
        refine ⟨k + 1, ws', by omega, by go_num, ?_⟩
        have h := H2.out
        rw [HS.out.2.2.2, List.map_append]
        exact h
      case measure => simp [intOf]; omega
    · obtain rfl : k = n := by omega
      go_wp2
      go_ret
      have h := HR.out
      rw [List.take_of_length_le (by have := HH.out.1.len; omega)] at h
      exact h.told
end Go.Proofs.Ytmeooadgdagiiaa

namespace Go.Proofs.Ytmeooadgdagiiaa
open Go.RowKit Lox
set_option linter.unusedVariables false
attribute [local go_sem] run_store_flt run_store_fn
attribute [local go_sem ↓] Go.wp_at_zero Go.wp_at_succ

theorem catch_idle_kn (p q : Addr) (w : World) :
    CallsD Try.prog 49 #[.pointer (some p), .pointer (some q)] .returning w fun e u' w' => e = .returned (.tuple #[]) ∧ u' = .returning ∧ w' = w := by
  refine callsD_of_wpS Try.func49 rfl fun c₀ cs hu => ?_
  apply wpS_seq
  apply wpS_region
  simp [wpOpsS, go_sem, recoverD, hu, Try.ntmps49, Exit.thenS]
  refine wpS_cond (t := false) (by simp [Act.eval, Array.replicate]) ?_
  simp only [Bool.false_eq_true, if_false]
  refine wpS_of_wp (wp_skip ?_)
  cases c₀
  simp_all [bodyPostS, results, Try.results49]

theorem init_kn (w : World) (H : Nat) (hH : w.heap.size = H) : ∃ W, W = ((w.alloc (.cells #[.slice none 0 0, .float .f64 0] 51)).alloc (.cells #[.bool false] 4)) ∧ W.heap.size = H + 2 ∧ Mod (fun _ => False) w W ∧
    Blk W H 51 [.slice none 0 0, .float .f64 0] ∧ Blk W (H + 1) 4 [.bool false] := by
  have hs : ∀ (w : World) (o : Obj) (k : Nat), w.heap.size = k → (w.alloc o).heap.size = k + 1 := fun w o k h => by rw [World.size_alloc, h]
  have s1 := hs w (.cells #[.slice none 0 0, .float .f64 0] 51) H hH
  have s2 := hs _ (.cells #[.bool false] 4) _ s1
  have nb : ∀ (w : World) (k : Nat) (c : Array Value) (T : TypeId), w.heap.size = k → Blk (w.alloc (.cells c T)) k T c.toList := fun w k c T h => by subst h; exact Blk.new' w c T
  refine ⟨_, rfl, s2, ((Mod.refl _ _).alloc _).alloc _, ?_, ?_⟩
  · exact (nb w H _ _ hH).alloc _
  · exact nb _ _ _ _ s1

theorem same_gr {mt mt' : MT} (h : mt'.T.map TP.xs = mt.T.map TP.xs) (hg : ∀ p ∈ mt.pts, p.Gr) : ∀ p ∈ mt'.pts, p.Gr := by
  intro p hp
  have h1 : p.xs ∈ mt.pts.map TP.xs := by rw [← same_pts h]; exact List.mem_map_of_mem hp
  obtain ⟨p0, h2, h3⟩ := List.mem_map.1 h1
  exact gr_xs (hg p0 h2) h3.symm

theorem same_nil {mt mt' : MT} (h : mt'.T.map TP.xs = mt.T.map TP.xs) (hn : mt ≠ .nil) : mt' ≠ .nil := by
  rintro rfl
  cases mt with
  | nil => exact hn rfl
  | node g p d bx l r => cases h

/-- What KNearest tells. -/
def KnrTold (dims : Nat) (qx : List Nat) (pts : List (List Nat)) (w : World) (e : Ending) (w' : World) : Prop :=
  ∃ (A : Option Addr) (c : Nat) (xs : List Nat) (r : Nat), e = .returned (.tuple #[.agg #[.slice A dims c, .float .f64 r], .bool true]) ∧ Sl w' A dims 1 (flts xs) ∧ xs ∈ pts ∧ Gd 0 r (sqx qx xs dims) ∧ (∀ y ∈ pts, sqx qx xs dims ≤ sqx qx y dims) ∧ (∀ b o, A = some ⟨b, o, none⟩ → w.heap.size ≤ b) ∧ Mod (fun _ => False) w w'

set_option maxRecDepth 100000 in
set_option maxHeartbeats 8000000 in
theorem knearest_at (A Q : Option Addr) (c n cq dims B : Nat) (qx : List Nat) (rs : List KR) (mt : MT) (w : World) (hdm : 0 < dims ∧ dims ≤ 4) (hn : n = rs.length) (hbx : ∀ x ∈ rs, x.mn.xs = [] ∨ (x.mn.xs.length = dims ∧ x.mx.xs.length = dims)) (h0 : mt ≠ .nil) (hK : KS B w dims (.slice A n c) rs) (hS : Seg rs mt 0)
    (hq : Sl w Q dims 1 (flts qx)) (hqg : ∀ x ∈ qx, ∃ n, Wh x n) (hP : ∀ p ∈ mt.pts, p.xs.length = dims ∧ p.Gr) (ho : mt.T.Ord leB) (he : mt.T.Each (fun _ d => d < dims)) :
    Calls Try.prog 22 #[.slice A n c, .slice Q dims cq] w (KnrTold dims qx (mt.pts.map TP.xs) w) := by
  have hmf : ∀ (fn : Fn) (first cap : Array Value) (w : World), (Instr.makeFunc fn first cap).run Try.prog w = .ok (.func fn first cap) w := fun _ _ _ _ => rfl
  have hta := run_assert_pt
  obtain ⟨H, hH⟩ : ∃ H, w.heap.size = H := ⟨_, rfl⟩
  obtain ⟨W3, eW3, z3, m3, q0, q1⟩ := init_kn w H hH
  have hqxl : qx.length = dims := by have := hq.1; simpa [flts] using this
  have KT : Hid (Calls Try.prog 42 #[.slice A n c, .int .i64 0] W3 (TrMade dims n mt W3)) := ktree2_at A c n dims B rs hdm hn hbx mt h0 W3 (hK.mod m3) hS
  have H3 : Hid (W3.heap.size = H + 2 ∧ Mod (fun _ => False) w W3 ∧ Blk W3 H 51 [.slice none 0 0, .float .f64 0] ∧ Blk W3 (H + 1) 4 [.bool false]) := ⟨z3, m3, q0, q1⟩
  have HEW := Lib.hid eW3
  have HP := Lib.hid (And.intro hq (And.intro hqg (And.intro hP (And.intro ho (And.intro he (And.intro h0 hqxl))))))
  clear hK hS hn hbx h0 hq hqg hP ho he z3 m3 q0 q1 eW3 hqxl
  go_enter_defers Try.func22, Try.ntmps22
  have tok1 : True := trivial
  go_wp2_with (first
    | (go_at_call 42; rw [← HEW.out]; refine KT.out.mono ?_; rintro _ w4 ⟨tb, v, mt', rfl, t1, t2, t3, t4, t5⟩; have H4 := Lib.hid (And.intro t1 (And.intro t2 (And.intro t3 (And.intro t4 t5)))); clear t1 t2 t3 t4 t5)
    | (go_at_call 33; have _t := tok1; clear _t tok1; refine (floats_any Q dims cq qx _ (HP.out.1.mod (H3.out.2.1.trans H4.out.2.2.2.2)) (by omega) hdm.1).mono ?_; rintro _ w5 ⟨Q2, cq2, rfl, f1, f2, f3⟩; have H5 := Lib.hid (And.intro f1 (And.intro f2 f3)); clear f1 f2 f3)
    | (go_at_call 50; refine (nearest_at dims tb n v hdm ⟨Q2, cq2, qx⟩ (TP.gr_of HP.out.2.1) mt' w5 (H4.out.1.mod H5.out.2.1 (fun h => h)) (H4.out.2.1.mod H5.out.2.1 (fun _ _ h => h)) ⟨HP.out.2.2.2.2.2.2, by show Sl w5 Q2 qx.length 1 _; rw [HP.out.2.2.2.2.2.2]; exact H5.out.1⟩ (fun p hp => ⟨(H4.out.2.2.2.1 p hp).mod0 H5.out.2.1, same_gr H4.out.2.2.1 (fun p hp => (HP.out.2.2.1 p hp).2) p hp⟩) (same_ord H4.out.2.2.1 HP.out.2.2.2.1) (same_each H4.out.2.2.1 HP.out.2.2.2.2.1) (same_nil H4.out.2.2.1 HP.out.2.2.2.2.2.1)).mono ?_; rintro _ w6 ⟨p, r, rfl, n1, n2, n3, n4⟩; have H6 := Lib.hid (And.intro n1 (And.intro n2 (And.intro n3 n4))); clear n1 n2 n3 n4)
    | (go_at_call 33; refine (floats_any p.A dims p.c p.xs _ (by have h := (H4.out.2.2.2.1 p H6.out.1).mod0 (H5.out.2.1.trans H6.out.2.2.2); have h2 := h.2; rw [h.1] at h2; exact h2) (by omega) hdm.1).mono ?_; rintro _ w7 ⟨A7, c7, rfl, g1, g2, g3⟩; have hm7 : Mod (fun _ => False) W3 w7 := ((H4.out.2.2.2.2.trans H5.out.2.1).trans H6.out.2.2.2).trans g2; have b0 := H3.out.2.2.1.mod hm7 (fun h => h); have b1 := H3.out.2.2.2.mod hm7 (fun h => h); have y0 := b0.at (i := 0) rfl; have y1 := b0.at (i := 1) rfl; have yb := b1.at (i := 0) rfl; have z0 := b0.frozen 0; have z1 := b0.frozen 1; have zb := b1.frozen 0; have H7 := Lib.hid (And.intro g1 (And.intro g2 (And.intro g3 (And.intro hm7 (And.intro b0 b1))))); clear g1 g2 g3 hm7 b0 b1))
  obtain ⟨W8, eW8⟩ : ∃ W8, W8 = ((w7.setCell ⟨H, 0, none⟩ (.slice A7 dims c7)).setCell ⟨H, 1, none⟩ (.float .f64 r)).setCell ⟨H + 1, 0, none⟩ (.bool true) := ⟨_, rfl⟩
  rw [← eW8]
  obtain ⟨g1, g2, g3, g4, g5, g6⟩ := H7.out
  have s7 : H + 2 ≤ w6.heap.size := by
    have h1 := ((H4.out.2.2.2.2.trans H5.out.2.1).trans H6.out.2.2.2).size
    have h2 := H3.out.1
    omega
  have b0 : Blk W8 H 51 [.slice A7 dims c7, .float .f64 r] := by
    rw [eW8]
    exact ((g5.set 0 (.slice A7 dims c7)).set 1 (.float .f64 r)).other (a := ⟨H + 1, 0, none⟩) (.bool true) (by show H + 1 ≠ H; omega)
  have b1 : Blk W8 (H + 1) 4 [.bool true] := by
    rw [eW8]
    exact ((g6.other (a := ⟨H, 0, none⟩) (.slice A7 dims c7) (by show H ≠ H + 1; omega)).other (a := ⟨H, 1, none⟩) (.float .f64 r) (by show H ≠ H + 1; omega)).set 0 (.bool true)
  have hm8 : Mod (fun _ => False) w W8 := by
    rw [eW8]
    exact (((H3.out.2.1.trans g4).set (p := ⟨H, 0, none⟩) (.inr (by show w.heap.size ≤ H; omega)) _).set (p := ⟨H, 1, none⟩) (.inr (by show w.heap.size ≤ H; omega)) _).set (p := ⟨H + 1, 0, none⟩) (.inr (by show w.heap.size ≤ H + 1; omega)) _
  have hs8 : Sl W8 A7 dims 1 (flts p.xs) := by
    rw [eW8]
    exact sl_set (sl_set (sl_set g1 (fun b o e => by have := g3 b o e; show b ≠ H; omega) _) (fun b o e => by have := g3 b o e; show b ≠ H; omega) _) (fun b o e => by have := g3 b o e; show b ≠ H + 1; omega) _
  have hfin : KnrTold dims qx (mt.pts.map TP.xs) w (.returned (.tuple #[.agg #[.slice A7 dims c7, .float .f64 r], .bool true])) W8 := by
    refine ⟨A7, c7, p.xs, r, rfl, hs8, ?_, H6.out.2.1, fun y hy => ?_, fun b o e => by have := g3 b o e; omega, hm8⟩
    · rw [← same_pts H4.out.2.2.1]; exact List.mem_map_of_mem H6.out.1
    · rw [← same_pts H4.out.2.2.1] at hy
      obtain ⟨y', hy', rfl⟩ := List.mem_map.1 hy
      exact H6.out.2.2.1 y' hy'
  have r0 := b0.at (i := 0) rfl
  have r1 := b0.at (i := 1) rfl
  have r2 := b1.at (i := 0) rfl
  have HFIN := Lib.hid hfin
  have HRR := Lib.hid (And.intro r0 (And.intro r1 r2))
  clear hfin r0 r1 r2 eW8 b0 b1 hm8 hs8 g1 g2 g3 g4 g5 g6 y0 y1 yb z0 z1 zb
  refine leaves_cons (f := 49) (args := #[.pointer (some ⟨H, 0, none⟩), .pointer (some ⟨H + 1, 0, none⟩)]) (by simp) (by simp [go_sem]) ?_
  refine (catch_idle_kn ⟨H, 0, none⟩ ⟨H + 1, 0, none⟩ _).mono ?_
  rintro e u' w'' ⟨rfl, rfl, rfl⟩
  obtain ⟨r0, r1, r2⟩ := HRR.out
  simp [Leaves, settle, results, Try.results22, go_sem, r0, r1, r2]
  exact HFIN.out
end Go.Proofs.Ytmeooadgdagiiaa

namespace Go.Proofs.Ytmeooadgdagiiaa
open Go.RowKit Lox
set_option linter.unusedVariables false
attribute [local go_sem] run_store_flt run_store_fn

/-- The law answers true, and nothing that was there has turned. -/
def Yes (w : World) (e : Ending) (w' : World) : Prop := e = .returned (.bool true) ∧ Mod (fun _ => False) w w'

theorem not_false {b : Bool} (h : (!b) = false) : b = true := by simpa using h

theorem root_row {dims n : Nat} {ps qs is : List TP} {ks : List Nat} {mt : MT} {rs : List KR} (hn : 0 < n) (hl : ps.length = n) (hs : qs.map TP.xs = ps.map TP.xs) (hT : mt.T = KB.inss leB dims (KB.build leB dims n qs ks 0).1 is) (hr : rs.map KR.plain = mt.flat 0)
    {p : TP} (hp : ps[(KB.pick n ks).1]? = some p) : ∃ r0, rs[0]? = some r0 ∧ r0.p.xs = p.xs := by
  have hql : qs.length = n := by have := congrArg List.length hs; simpa [hl] using this
  obtain ⟨q, hq⟩ : ∃ q, qs[(KB.pick n ks).1]? = some q := ⟨_, List.getElem?_eq_getElem (by rw [hql]; exact KB.pick_lt n hn ks)⟩
  have hqp : q.xs = p.xs := by
    have h1 : (qs.map TP.xs)[(KB.pick n ks).1]? = some q.xs := by rw [List.getElem?_map, hq]; rfl
    rw [hs, List.getElem?_map, hp] at h1
    injection h1 with h1
    exact h1.symm
  obtain ⟨n', rfl⟩ : ∃ n', n = n' + 1 := ⟨n - 1, by omega⟩
  have hroot := KB.inss_root leB dims q is _ (KB.build_root leB dims n' qs ks (by omega) q (by rw [hql]; exact hq))
  rw [← hT] at hroot
  cases mt with
  | nil => exact hroot.elim
  | node g x d bx l r =>
    have hx : x = q := hroot
    subst hx
    cases rs with
    | nil => simp [MT.flat] at hr
    | cons r0 rs =>
      simp only [List.map_cons, MT.flat, List.cons.injEq] at hr
      refine ⟨r0, rfl, ?_⟩
      have := congrArg PR.xs hr.1
      exact this.trans hqp

theorem ints_nat {pk : List Int} (h : ∀ k ∈ pk, 0 ≤ k) : (pk.map Int.toNat).map Int.ofNat = pk := by
  rw [List.map_map]
  refine (List.map_congr_left fun k hk => ?_).trans (List.map_id _)
  have := h k hk
  show ((k.toNat : Nat) : Int) = k
  omega

/-- What the law's last row reads. -/
structure RootEnd (W : World) (b o t q0 : Nat) (A5 : Option Addr) (N : Nat) : Prop where
  ex : ∃ (g : Nat) (A : Option Addr) (c : Nat) (B : Option Addr) (c' : Nat) (xs : List Nat), A5 = some ⟨g, 0, none⟩ ∧ 0 < N ∧ N ≤ 9223372036854775807 ∧ W.cell? ⟨g, 0, none⟩ = some (.slice A q0 c) ∧ Sl W A q0 1 (flts xs) ∧ W.cell? ⟨b, o + t, none⟩ = some (.slice B q0 c') ∧ Sl W B q0 1 (flts xs) ∧ ∀ x ∈ xs, Num x

theorem root_end {w W : World} {H b o t q0 n : Nat} {A5 : Option Addr} {c5 : Nat} {ps qs is : List TP} {ks : List Nat} {mt : MT} {rs : List KR} (hn : 0 < n) (hl : ps.length = n) (hcell : ∀ j u, (ps.map TP.v)[j]? = some u → w.cell? ⟨b, o + j, none⟩ = some u) (hrd : ∀ p ∈ ps, p.Rd w)
    (hall : ∀ p ∈ ps, (p.xs.length : Int) = (q0 : Int) ∧ ∀ y ∈ p.xs, ∃ n, Wh y n) (hm : Mod (fun _ => False) w W) (hK : KS H W q0 (.slice A5 rs.length c5) rs) (hr : rs.map KR.plain = mt.flat 0) (hT : mt.T = KB.inss leB q0 (KB.build leB q0 n qs ks 0).1 is) (hs : qs.map TP.xs = ps.map TP.xs) (ht : t = (KB.pick n ks).1) :
    RootEnd W b o t q0 A5 rs.length := by
  have htn : t < n := by rw [ht]; exact KB.pick_lt n hn ks
  obtain ⟨p, hp⟩ : ∃ p, ps[t]? = some p := ⟨_, List.getElem?_eq_getElem (by omega)⟩
  have hpm := List.mem_of_getElem? hp
  obtain ⟨r0, hr0, hx⟩ := root_row hn hl hs hT hr (by rw [← ht]; exact hp)
  have hpos : 0 < rs.length := (List.getElem?_eq_some_iff.1 hr0).1
  obtain ⟨g, cap, e5, -, -⟩ := hK.own.form hpos
  injection e5 with e5 e6 e7
  subst e5
  have hc := (hK.cell rfl hr0 (j := 0) (by omega)).1
  have hok := (hK.ok r0 (List.mem_of_getElem? hr0)).1.1
  have hpl : p.xs.length = q0 := by have := (hall p hpm).1; omega
  have hpc := hcell t p.v (by rw [List.getElem?_map, hp]; rfl)
  have hcap : rs.length ≤ 9223372036854775807 := by
    rcases hK.own.2 with ⟨e, _⟩ | ⟨g', cap', cur, e1, hB, hg, hc1, hcm, _⟩
    · cases e
    · cases e1
      unfold maxLen at hcm
      omega
  refine ⟨g, r0.p.A, r0.p.c, p.A, p.c, p.xs, rfl, hpos, hcap, ?_, ?_, ?_, ?_, fun x hx => ?_⟩
  · rw [Nat.zero_mul] at hc
    rw [hc]
    show some (Value.slice r0.p.A r0.p.xs.length r0.p.c) = _
    rw [hok.1]
  · have := hok.2
    rw [hok.1, hx] at this
    exact this
  · refine (hm.cell (lt_of_cell hpc) (fun h => h)).trans ?_
    rw [hpc]
    show some (Value.slice p.A p.xs.length p.c) = _
    rw [hpl]
  · have := ((hrd p hpm).mod hm).1
    rw [hpl] at this
    exact this
  · obtain ⟨z, hz⟩ := (hall p hpm).2 x hx
    have hf := hz.1.1
    obtain ⟨s, m, i, hd⟩ := hf
    unfold Num
    rw [hd]
    rfl

theorem same_q (A B : Option Addr) (n c c' : Nat) (xs : List Nat) (w : World) (k : Nat) (ha : Sl w A n 1 (flts xs)) (hb : Sl w B n 1 (flts xs)) (hn : n ≤ 9223372036854775807) (hx : ∀ x ∈ xs, Num x) :
    Calls Try.prog 15 #[.slice A n c, .slice B n c'] (w.drewN k) fun e w' => e = .returned (.bool true) ∧ ∃ m, w' = w.drewN m :=
  (same_yes A B n c c' xs (w.drewN k) (ha.keep fun _ _ => rfl) (hb.keep fun _ _ => rfl) hn hx).mono fun _ _ ⟨he, hw⟩ => ⟨he, k, hw.symm⟩

set_option maxRecDepth 100000 in
set_option maxHeartbeats 8000000 in
theorem fnTkRoot_at (x y : RR) (P : Option Addr) (cp nk : Nat) (pk : List Int) (w : World) (hx : x.Ok w) (hy : y.Ok w) (hP : Sl w P nk 1 (ints pk)) (hPA : P = none → cp = 0) (hnk : nk ≤ 9223372036854775807) (hpk : ∀ k ∈ pk, k ≤ 9223372036854775807) :
    Calls Try.prog 4 #[x.v, .slice P nk cp, y.v] w (Yes w) := by
  have hpl : pk.length = nk := by have := hP.1; simpa [ints] using this
  obtain ⟨O, c, ps⟩ := x
  obtain ⟨I, ci, ins⟩ := y
  obtain ⟨n, hn⟩ : ∃ n, ps.length = n := ⟨_, rfl⟩
  obtain ⟨m, hm⟩ : ∃ m, ins.length = m := ⟨_, rfl⟩
  have ex : (RR.mk O c ps).v = .slice O n c := by rw [← hn]; rfl
  have ey : (RR.mk I ci ins).v = .slice I m ci := by rw [← hm]; rfl
  have hnl : n ≤ 9223372036854775807 := by rw [← hn]; exact hx.2.2
  have hml : m ≤ 9223372036854775807 := by rw [← hm]; exact hy.2.2
  have FX : Hid (∀ W : World, Mod (fun _ => False) w W → Calls Try.prog 8 #[.slice O n c] W (FitsTold ⟨O, c, ps⟩ W)) := fun W hm => by rw [← ex]; exact fits4_any _ W (hx.mod hm)
  have FY : Hid (∀ W : World, Mod (fun _ => False) w W → Calls Try.prog 8 #[.slice I m ci] W (FitsTold ⟨I, ci, ins⟩ W)) := fun W h => by rw [← ey]; exact fits4_any _ W (hy.mod h)
  rw [ex, ey]
  have HX := Lib.hid (And.intro hx (And.intro hy (And.intro hP (And.intro hPA (And.intro hpk (And.intro hpl (And.intro hn hm)))))))
  clear ex ey hx hy hP hPA hpk hpl hn hm
  by_cases hbig : 2147483647 < nk
  · go_enter Try.func4, Try.ntmps4
    have tok1 : True := trivial
    go_wp2_with (first | (go_at_call 8; have _t := tok1; clear _t tok1; refine (FX.out _ (Mod.refl _ _)).mono ?_; rintro _ w1 ⟨b1, rfl, rfl, hb1⟩; have HB1 := Lib.hid hb1; clear hb1))
    all_goals
      go_ret
      exact ⟨rfl, Mod.refl _ _⟩
  · by_cases h0 : n = 0
    · subst h0
      go_enter Try.func4, Try.ntmps4
      have tok1 : True := trivial
      go_wp2_with (first | (go_at_call 8; have _t := tok1; clear _t tok1; refine (FX.out _ (Mod.refl _ _)).mono ?_; rintro _ w1 ⟨b1, rfl, rfl, hb1⟩; have HB1 := Lib.hid hb1; clear hb1) | (go_at_call 8; refine (FY.out _ (Mod.refl _ _)).mono ?_; rintro _ w2 ⟨b2, rfl, rfl, hb2⟩; have HB2 := Lib.hid hb2; clear hb2))
      all_goals
        go_ret
        exact ⟨rfl, Mod.refl _ _⟩
    · have hx0 : 0 < ps.length := by rw [HX.out.2.2.2.2.2.2.1]; omega
      obtain ⟨p0, hp0⟩ : ∃ p0, ps[0]? = some p0 := ⟨_, List.getElem?_eq_getElem hx0⟩
      have hslx : Sl w O n 1 (ps.map TP.v) := by rw [← HX.out.2.2.2.2.2.2.1]; exact HX.out.1.1
      obtain ⟨b, o, eO, hcell⟩ := hslx.2 (by omega)
      subst eO
      obtain ⟨q0, hq0⟩ : ∃ q0, p0.xs.length = q0 := ⟨_, rfl⟩
      have c0 : w.cell? ⟨b, o, none⟩ = some (.slice p0.A q0 p0.c) := by
        have := hcell 0 p0.v (by rw [List.getElem?_map, hp0]; rfl)
        rw [Nat.add_zero] at this
        rw [this, ← hq0]; rfl
      have hq0l : q0 ≤ 9223372036854775807 := by rw [← hq0]; exact (HX.out.1.2.1 p0 (List.mem_of_getElem? hp0)).2
      have e0 : ((n : Int) == 0) = false := by
        have : (n : Int) ≠ 0 := by omega
        simpa using this
      have hbl := lt_of_cell c0
      have SM : Hid (∀ W : World, Mod (fun _ => False) w W → n ≤ 2147483647 → m ≤ 2147483647 → Calls Try.prog 9 #[.int .i64 q0, .float .f64 4697254411347427328, .slice P nk cp, .slice (some ⟨W.heap.size, 0, none⟩) 2 2] (W.alloc (.cells #[.slice (some ⟨b, o, none⟩) n c, .slice I m ci] 22)) (SomeTold q0 [⟨some ⟨b, o, none⟩, c, ps⟩, ⟨I, ci, ins⟩] pk (W.alloc (.cells #[.slice (some ⟨b, o, none⟩) n c, .slice I m ci] 22)))) := by
        intro W hW h1 h2
        have hm2 := hW.alloc (.cells #[.slice (some ⟨b, o, none⟩) n c, .slice I m ci] 22)
        obtain ⟨g1, g2, g3, g4, g5, g6, g7, g8⟩ := HX.out
        refine some_at _ P 2 2 nk cp q0 [⟨some ⟨b, o, none⟩, c, ps⟩, ⟨I, ci, ins⟩] pk _ ?_ (by omega) ?_ (g3.mod hm2) (by omega)
        · have hb := Blk.new' W #[.slice (some ⟨b, o, none⟩) n c, .slice I m ci] 22
          refine ⟨rfl, fun _ => ⟨W.heap.size, 0, rfl, fun j u hu => ?_⟩⟩
          rw [Nat.zero_add]
          exact hb.at (by rw [← hu]; simp only [List.map_cons, List.map_nil, RR.v, g7, g8])
        · intro z hz
          rcases List.mem_cons.1 hz with rfl | hz
          · exact ⟨g1.mod hm2, by show ps.length ≤ _; omega⟩
          · rw [List.mem_singleton.1 hz]
            exact ⟨g2.mod hm2, by show ins.length ≤ _; omega⟩
      have KBF : Hid (∀ W : World, Mod (fun _ => False) w W → ((∀ x ∈ [(⟨some ⟨b, o, none⟩, c, ps⟩ : RR), ⟨I, ci, ins⟩], (∀ p ∈ x.ps, (p.xs.length : Int) = (q0 : Int) ∧ ∀ y ∈ p.xs, ∃ n, Wh y n) ∧ (0 : Int) < (q0 : Int)) ∧ (q0 : Int) ≤ 4 ∧ many [⟨some ⟨b, o, none⟩, c, ps⟩, ⟨I, ci, ins⟩] ≤ 120 ∧ pk.length ≤ 80 ∧ ∀ k ∈ pk, 0 ≤ k) →
          Calls Try.prog 10 #[.slice (some ⟨b, o, none⟩) n c, .slice P nk cp, .bool false, .slice I m ci] W (KbTold q0 n m ps ins (pk.map Int.toNat) W)) := by
        rintro W hW ⟨h1, h2, h3, h4, h5⟩
        obtain ⟨g1, g2, g3, g4, g5, g6, g7, g8⟩ := HX.out
        obtain ⟨a1, a2⟩ := h1 _ (List.mem_cons_self ..)
        obtain ⟨a3, -⟩ := h1 _ (List.mem_cons_of_mem _ (List.mem_cons_self ..))
        have hnm : n + m ≤ 120 := by simpa [many, g7, g8] using h3
        refine kbuild_at _ P I n c nk cp m ci q0 ps ins _ W ⟨by rw [← g7]; exact (g1.mod hW).1, fun p hp => ⟨(g1.mod hW).2.1 p hp, by have := (a1 p hp).1; omega⟩⟩ ⟨by rw [← g8]; exact (g2.mod hW).1, fun p hp => ⟨(g2.mod hW).2.1 p hp, by have := (a3 p hp).1; omega⟩⟩ (by rw [List.length_map, g6]) (by rw [ints_nat h5]; exact g3.mod hW) g4 ?_ (fun p hp => TP.gr_of (a1 p hp).2) (fun p hp => TP.gr_of (a3 p hp).2) (by omega) (by omega)
        intro k hk
        obtain ⟨k', hk', rfl⟩ := List.mem_map.1 hk
        have := g5 k' hk'
        omega
      have HPC := Lib.hid hcell
      have HP0 := Lib.hid (And.intro hp0 hq0)
      clear hx0 hp0 hslx hcell hq0
      by_cases hk0 : nk = 0
      · subst hk0
        obtain ⟨t, ht⟩ : ∃ t, t = n / 2 := ⟨_, rfl⟩
        have hat : (n : Int) / 2 = (t : Int) := by omega
        have htn : (t : Int) < n := by omega
        have ht0 : (0 : Int) ≤ t := by omega
        have HTT := Lib.hid ht
        clear ht
        go_enter Try.func4, Try.ntmps4
        have tok1 : True := trivial
        go_wp2_with (first
          | (go_at_call 8; have _t := tok1; clear _t tok1; refine (FX.out _ (Mod.refl _ _)).mono ?_; rintro _ w1 ⟨b1, rfl, rfl, hb1⟩; have HB1 := Lib.hid hb1; clear hb1)
          | (go_at_call 8; refine (FY.out _ (Mod.refl _ _)).mono ?_; rintro _ w2 ⟨b2, rfl, rfl, hb2⟩; have HB2 := Lib.hid hb2; clear hb2)
          | (go_at_call 9; refine (SM.out w (Mod.refl _ _) (by have h1 : ps.length ≤ 2147483647 := (HB1.out (by first | assumption | exact not_false (by assumption))).1; have h2 := HX.out.2.2.2.2.2.2.1; omega) (by have h1 : ins.length ≤ 2147483647 := (HB2.out (by first | assumption | exact not_false (by assumption))).1; have h2 := HX.out.2.2.2.2.2.2.2; omega)).mono ?_; rintro _ w3 ⟨rfl, b3, rfl, hb3⟩; have HB3 := Lib.hid hb3; clear hb3)
          | (go_at_call 10; refine (KBF.out _ ((Mod.refl _ _).alloc _) (HB3.out (by first | assumption | exact not_false (by assumption)))).mono ?_; rintro _ w4 ⟨v, rs, mt, qs, is, rfl, k1, k2, k3, k4, k5, k6, k7, ⟨A5, c5, rfl⟩⟩; have HK := Lib.hid (And.intro k1 (And.intro k2 (And.intro k3 (And.intro k4 (And.intro k5 (And.intro k6 k7)))))); clear k1 k2 k3 k4 k5 k6 k7))
        all_goals first
          | (go_ret; exact ⟨rfl, by first | exact Mod.refl _ _ | exact (Mod.refl _ _).alloc _⟩)
          | skip
        have hb3 := HB3.out (by first | assumption | exact not_false (by assumption))
        have hE : RootEnd w4 b o t q0 A5 rs.length := root_end (by omega) HX.out.2.2.2.2.2.2.1 HPC.out HX.out.1.2.1 (hb3.1 _ (List.mem_cons_self ..)).1 (((Mod.refl _ _).alloc _).trans HK.out.2.2.2.2.2.2) HK.out.1 HK.out.2.1 HK.out.2.2.1 HK.out.2.2.2.2.1 (by rw [HTT.out]; have h6 := HX.out.2.2.2.2.2.1; rw [List.length_eq_zero_iff.1 h6]; rfl)
        obtain ⟨g, A, cA, B, cB, xs, rfl, hN, hN2, y1, y2, y3, y4, y5⟩ := hE.ex
        obtain ⟨N, hNe⟩ : ∃ N, N = rs.length := ⟨_, rfl⟩
        rw [← hNe] at hN hN2
        have HNe := Lib.hid hNe
        have HY := Lib.hid (And.intro y2 (And.intro y4 y5))
        have hmw : Hid (Mod (fun _ => False) w w4) := ((Mod.refl _ _).alloc _).trans HK.out.2.2.2.2.2.2
        have dN : decide ((0 : Int) < (N : Int)) = true := decide_eq_true (by omega)
        have i1 : (0 : Int) < (N : Int) := by omega
        rw [← hNe]
        clear hb3 hE hNe y2 y4 y5
        go_quiet ((go_at_call 15; exact same_q A B q0 cA cB xs w4 _ HY.out.1 HY.out.2.1 hq0l HY.out.2.2))
        go_wp2
        go_ret
        exact ⟨rfl, hmw.out.drewN _⟩
      · obtain ⟨x0, hx0⟩ : ∃ x0, pk[0]? = some x0 := ⟨_, List.getElem?_eq_getElem (by rw [HX.out.2.2.2.2.2.1]; omega)⟩
        obtain ⟨bp, op, eP, hcp⟩ := HX.out.2.2.1.2 (by omega)
        have cp0 : w.cell? ⟨bp, op, none⟩ = some (.int .i64 x0) := by
          have := hcp 0 _ (ints_at hx0)
          rw [Nat.add_zero] at this
          exact this
        have hpl0 := lt_of_cell cp0
        have hx0m := List.mem_of_getElem? hx0
        have hx0b := HX.out.2.2.2.2.1 x0 hx0m
        subst eP
        have n0 : (0 : Int) < nk := by omega
        have hdk : decide ((2147483647 : Int) < (nk : Int)) = false := decide_eq_false (by omega)
        by_cases hneg : x0 < 0
        · have HNG := Lib.hid (And.intro hx0m hneg)
          clear hcp hx0m hneg hx0
          go_enter Try.func4, Try.ntmps4
          have tok1 : True := trivial
          go_wp2_with (first
            | (go_at_call 8; have _t := tok1; clear _t tok1; refine (FX.out _ (Mod.refl _ _)).mono ?_; rintro _ w1 ⟨b1, rfl, rfl, hb1⟩; have HB1 := Lib.hid hb1; clear hb1)
            | (go_at_call 8; refine (FY.out _ (Mod.refl _ _)).mono ?_; rintro _ w2 ⟨b2, rfl, rfl, hb2⟩; have HB2 := Lib.hid hb2; clear hb2)
            | (go_at_call 9; refine (SM.out w (Mod.refl _ _) (by have h1 : ps.length ≤ 2147483647 := (HB1.out (by first | assumption | exact not_false (by assumption))).1; have h2 := HX.out.2.2.2.2.2.2.1; omega) (by have h1 : ins.length ≤ 2147483647 := (HB2.out (by first | assumption | exact not_false (by assumption))).1; have h2 := HX.out.2.2.2.2.2.2.2; omega)).mono ?_; rintro _ w3 ⟨rfl, b3, rfl, hb3⟩; have HB3 := Lib.hid hb3; clear hb3)
            | (go_at_call 10; exact absurd ((HB3.out (by first | assumption | exact not_false (by assumption))).2.2.2.2 x0 HNG.out.1) (by have := HNG.out.2; omega)))
          all_goals first
            | (go_ret; exact ⟨rfl, by first | exact Mod.refl _ _ | exact (Mod.refl _ _).alloc _⟩)
        · obtain ⟨k0, rfl⟩ : ∃ k0 : Nat, x0 = (k0 : Int) := ⟨x0.toNat, by omega⟩
          obtain ⟨t, ht⟩ : ∃ t, t = k0 % n := ⟨_, rfl⟩
          have hat : (k0 : Int) % (n : Int) = (t : Int) := by rw [ht]; simp
          have hlt := Nat.mod_lt k0 (show 0 < n by omega)
          have htn : (t : Int) < n := by omega
          have ht0 : (0 : Int) ≤ t := by omega
          have hn0 : (0 : Int) < n := by omega
          have HTT : Hid (t = (KB.pick n (pk.map Int.toNat)).1) := by
            show _ = _
            cases hpk' : pk with
            | nil => rw [hpk'] at hx0; simp at hx0
            | cons a l =>
              rw [hpk'] at hx0
              simp only [List.getElem?_cons_zero, Option.some.injEq] at hx0
              subst hx0
              simp only [List.map_cons, Int.toNat_natCast, KB.pick]
              exact ht
          clear hcp hx0m hneg hx0 ht hlt
          go_enter Try.func4, Try.ntmps4
          have tok1 : True := trivial
          go_wp2_with (first
            | (go_at_call 8; have _t := tok1; clear _t tok1; refine (FX.out _ (Mod.refl _ _)).mono ?_; rintro _ w1 ⟨b1, rfl, rfl, hb1⟩; have HB1 := Lib.hid hb1; clear hb1)
            | (go_at_call 8; refine (FY.out _ (Mod.refl _ _)).mono ?_; rintro _ w2 ⟨b2, rfl, rfl, hb2⟩; have HB2 := Lib.hid hb2; clear hb2)
            | (go_at_call 9; refine (SM.out w (Mod.refl _ _) (by have h1 : ps.length ≤ 2147483647 := (HB1.out (by first | assumption | exact not_false (by assumption))).1; have h2 := HX.out.2.2.2.2.2.2.1; omega) (by have h1 : ins.length ≤ 2147483647 := (HB2.out (by first | assumption | exact not_false (by assumption))).1; have h2 := HX.out.2.2.2.2.2.2.2; omega)).mono ?_; rintro _ w3 ⟨rfl, b3, rfl, hb3⟩; have HB3 := Lib.hid hb3; clear hb3)
            | (go_at_call 10; refine (KBF.out _ ((Mod.refl _ _).alloc _) (HB3.out (by first | assumption | exact not_false (by assumption)))).mono ?_; rintro _ w4 ⟨v, rs, mt, qs, is, rfl, k1, k2, k3, k4, k5, k6, k7, ⟨A5, c5, rfl⟩⟩; have HK := Lib.hid (And.intro k1 (And.intro k2 (And.intro k3 (And.intro k4 (And.intro k5 (And.intro k6 k7)))))); clear k1 k2 k3 k4 k5 k6 k7))
          all_goals first
            | (go_ret; exact ⟨rfl, by first | exact Mod.refl _ _ | exact (Mod.refl _ _).alloc _⟩)
            | skip
          have hb3 := HB3.out (by first | assumption | exact not_false (by assumption))
          have hE : RootEnd w4 b o t q0 A5 rs.length := root_end (by omega) HX.out.2.2.2.2.2.2.1 HPC.out HX.out.1.2.1 (hb3.1 _ (List.mem_cons_self ..)).1 (((Mod.refl _ _).alloc _).trans HK.out.2.2.2.2.2.2) HK.out.1 HK.out.2.1 HK.out.2.2.1 HK.out.2.2.2.2.1 HTT.out
          obtain ⟨g, A, cA, B, cB, xs, rfl, hN, hN2, y1, y2, y3, y4, y5⟩ := hE.ex
          obtain ⟨N, hNe⟩ : ∃ N, N = rs.length := ⟨_, rfl⟩
          rw [← hNe] at hN hN2
          have HNe := Lib.hid hNe
          have HY := Lib.hid (And.intro y2 (And.intro y4 y5))
          have hmw : Hid (Mod (fun _ => False) w w4) := ((Mod.refl _ _).alloc _).trans HK.out.2.2.2.2.2.2
          have dN : decide ((0 : Int) < (N : Int)) = true := decide_eq_true (by omega)
          have i1 : (0 : Int) < (N : Int) := by omega
          rw [← hNe]
          clear hb3 hE hNe y2 y4 y5
          go_quiet ((go_at_call 15; exact same_q A B q0 cA cB xs w4 _ HY.out.1 HY.out.2.1 hq0l HY.out.2.2))
          go_wp2
          go_ret
          exact ⟨rfl, hmw.out.drewN _⟩
end Go.Proofs.Ytmeooadgdagiiaa
