/- Steps of a proof, one behind another: The walk of tFound. The walk of kfound. A tree out of its rows: its nodes and its points lie in new blocks (printed by wip/gen_wkn.py out of XTnKnode). ktree, with its nodes' and points' blocks new. Max and Pop of a keeper within a distance (printed by wip/gen_wm.py). Max and Pop of a keeper (printed by wip/gen_wm.py). A keeper as the search asks for it; the walk of Tree.NearestSet (printed by wip/gen_nset.py). A keeper within a distance as the search asks for it; the walk of Tree.NearestSet (printed by wip/gen_nset.py). Conditions: as each theorem says. -/
import Derived.Test.YtmeooadgdagiiaaGreatMw11
import Derived.Deep.RegionHeld3
import Derived.Deep.DrawnRows
import Derived.Deep.RegionLaw
import Derived.Deep.AppendLies
import Derived.Deep.DeepCutAuto
import Derived.BigRegion

namespace Go.Proofs.YtmeooadgdagiiaaGreat
open Go.RowKit Lox
set_option linter.unusedVariables false
attribute [local go_sem] run_store_flt run_store_fn

/-- What was found: points, each with its number, in a row. -/
structure FRows (w : World) (F : Option Addr) (n : Nat) (fs : List (TP × Nat)) : Prop where
  len : fs.length = n
  cells : 0 < n → ∃ b o, F = some ⟨b, o, none⟩ ∧ ∀ i x, fs[i]? = some x → w.cell? ⟨b, o + i * 2, none⟩ = some x.1.v ∧ w.cell? ⟨b, o + i * 2 + 1, none⟩ = some (.float .f64 x.2)

theorem FRows.mod {w w' : World} {F : Option Addr} {n : Nat} {fs : List (TP × Nat)} (h : FRows w F n fs) (hm : Mod (fun _ => False) w w') : FRows w' F n fs := by
  refine ⟨h.len, fun h0 => ?_⟩
  obtain ⟨b, o, e, hc⟩ := h.cells h0
  exact ⟨b, o, e, fun i x hx => ⟨(hm.cell (lt_of_cell (hc i x hx).1) (fun h => h)).trans (hc i x hx).1, (hm.cell (lt_of_cell (hc i x hx).2) (fun h => h)).trans (hc i x hx).2⟩⟩

/-- The loop's state. -/
structure GT (w w' : World) (v : Value) (k : Nat) (gs : List TP) : Prop where
  own : w'.ownsRow w.heap.size 24 1 v k (gs.map TP.v)
  mod : Mod (fun _ => False) w w'

theorem GT.step {w w' w1 w3 : World} {v : Value} {k g cap : Nat} {gs : List TP} {p : TP} (h : GT w w' v k gs) (h1 : Mod (fun _ => False) w' w1) {o : Obj} (hown : w3.ownsRow w.heap.size 24 1 (.slice (some ⟨g, 0, none⟩) (k + 1) cap) (k + 1) (gs.map TP.v ++ [p.v])) (hgrow : (w1.alloc o).grownBy w3 v.ownBlock) : GT w w3 (.slice (some ⟨g, 0, none⟩) (k + 1) cap) (k + 1) (gs ++ [p]) := by
  refine ⟨by rw [List.map_append]; exact hown, ((h.mod.trans h1).alloc o).grown hgrow (fun j e hj => by have := (own_block h.own e).1; omega)⟩

theorem GT.rows {w w' : World} {v : Value} {n : Nat} {gs : List TP} (h : GT w w' v n gs) : ∃ A c, v = .slice A n c ∧ Sl w' A n 1 (gs.map TP.v) := by
  have h2 := h.own
  have h3 : AllTold gs [] n w (.returned v) w' := own_told (by rw [List.append_nil]; exact h2) h.mod
  obtain ⟨A, c, e, hs, -, -⟩ := h3
  injection e with e
  rw [List.append_nil] at hs
  exact ⟨A, c, e, hs⟩

set_option maxRecDepth 100000 in
set_option maxHeartbeats 8000000 in
theorem found_at (F I W : Option Addr) (n cF m ci cw dims : Nat) (fs : List (TP × Nat)) (ps : List TP) (q : TP) (ws : List Nat) (w : World) (hF : FRows w F n fs) (hf : ∀ x ∈ fs, x.1.Rd w ∧ x.1.xs.length = dims ∧ x.1.Gr) (hW : Sl w W n 1 (flts ws)) (hw : ∀ (i : Nat) (x : TP × Nat) (y : Nat), fs[i]? = some x → ws[i]? = some y → Gd 0 x.2 (sqx x.1.xs q.xs dims) ∧ Gd 0 y (sqx x.1.xs q.xs dims))
    (hp : PRows w I m ps dims) (gp : ∀ p ∈ ps, p.Gr) (hq : q.Ok w dims) (gq : q.Gr) (hc : ∀ κ, ((fs.map (·.1)).map TP.key).count κ ≤ (ps.map TP.key).count κ) (hn : n ≤ 2147483647 ∧ m ≤ 2147483647) (hdm : dims ≤ 4) :
    Calls Tryz.prog 9 #[.slice F n cF, .slice I m ci, .slice q.A dims q.c, .slice W n cw] w fun e w' => e = .returned (.bool true) ∧ Mod (fun _ => False) w w' := by
  obtain ⟨i0, hi0, hz0, hz1, hz2⟩ := info_parts info_floats
  have HI := Lib.hid (And.intro hi0 (And.intro hz0 (And.intro hz1 hz2)))
  clear hi0 hz0 hz1 hz2
  have hwl : ws.length = n := by have := hW.1; simpa [flts] using this
  have HH := Lib.hid (And.intro hF (And.intro hf (And.intro hW (And.intro hw (And.intro hp (And.intro gp (And.intro hq (And.intro gq (And.intro hc hwl)))))))))
  clear hF hf hW hw hp gp hq gq hc hwl
  go_enter Tryz.func9, Tryz.ntmps9
  go_wp2
  go_loopw [9, 19] (fun v i wr => ∃ k : Nat, k ≤ n ∧ i = .int .i64 k ∧ Hid (GT w wr v k ((fs.take k).map (·.1)))) (fun _ i _ => n - (intOf i).toNat)
  case atStart => exact ⟨0, Nat.zero_le _, rfl, World.ownsRow_nil _ _ _ _, Mod.refl _ _⟩
  case round =>
    obtain ⟨k, hk, rfl, HR⟩ := hrel
    by_cases hlt : k < n
    · have hfr := HH.out.1.mod HR.out.mod
      obtain ⟨b, o, eF, hcl⟩ := hfr.cells (by omega)
      have hk2 : k < fs.length := by rw [HH.out.1.len]; exact hlt
      obtain ⟨x, ex⟩ : ∃ x, x = fs[k] := ⟨_, rfl⟩
      have hxk : fs[k]? = some x := by rw [ex]; exact List.getElem?_eq_getElem hk2
      have hTK : fs.take (k + 1) = fs.take k ++ [x] := by rw [List.take_succ_eq_append_getElem hk2, ex]
      obtain ⟨c0, c1⟩ := hcl k x hxk
      obtain ⟨hrd, hpl, hpg⟩ := HH.out.2.1 x (List.mem_of_getElem? hxk)
      obtain ⟨b2, o2, v2, e2, f2, d2⟩ := (HH.out.2.2.1.mod HR.out.mod).at1 hlt
      have hw2 : k < ws.length := by rw [HH.out.2.2.2.2.2.2.2.2.2]; exact hlt
      rw [flts_getD hw2] at f2
      cases f2
      have hwk : ws[k]? = some (ws.getD k 0) := by simp [hw2]
      obtain ⟨g1, g2⟩ := HH.out.2.2.2.1 k x _ hxk hwk
      obtain ⟨p, d⟩ := x
      have hpl : p.xs.length = dims := hpl
      have c0' : wr.cell? ⟨b, o + k * 2, none⟩ = some (.slice p.A dims p.c) := by rw [c0, ← hpl]; rfl
      have c1' : wr.cell? ⟨b, o + k * 2 + 1, none⟩ = some (.float .f64 d) := c1
      generalize ws.getD k 0 = y at d2 g2
      have q1 := g1.eq g2
      rw [decide_eq_true rfl] at q1
      have HS := Lib.hid (And.intro (show p.Ok wr dims from ⟨hpl, (hrd.mod HR.out.mod).1⟩) (And.intro hpg (And.intro hTK (And.intro g2 hpl))))
      subst eF e2
      clear hfr hcl hk2 ex hxk hTK c0 c1 hrd hpl hpg hw2 hwk g1 g2
      have i0' : (0 : Int) ≤ k := by omega
      have i1' : (k : Int) < n := by omega
      have q1n : (FloatKind.f64.format.order d y != some .eq) = false := by rw [bne, q1]; rfl
      obtain ⟨o1, ho1⟩ : ∃ o1, o1 = Obj.cells #[.slice p.A dims p.c, .float .f64 d] 68 := ⟨_, rfl⟩
      have B1 : Blk (wr.alloc o1) wr.heap.size 68 [.slice p.A dims p.c, .float .f64 d] := by rw [ho1]; exact Blk.new' wr _ _
      have y0 := B1.at (i := 0) rfl
      have y1 := B1.at (i := 1) rfl
      have y2 : (wr.alloc o1).cell? ⟨b2, o2 + k, none⟩ = some (.float .f64 y) := (World.cell?_alloc_past _ _ _ (lt_of_cell d2)).trans d2
      have HY := Lib.hid (And.intro y0 (And.intro y1 y2))
      rw [ho1] at HY
      have hd0 : decide ((dims : Int) = dims) = true := decide_eq_true rfl
      clear B1 y0 y1 y2 ho1
      go_wp2_with fail
      go_region_held3 (fun w' => w'.cell? ⟨wr.heap.size, 0, none⟩ = some (.slice p.A dims p.c) ∧ w'.cell? ⟨wr.heap.size, 1, none⟩ = some (.float .f64 d) ∧ w'.cell? ⟨b2, o2 + k, none⟩ = some (.float .f64 y)) (first | exact HY.out)
        (first | (go_at_call 26; refine (square_at _ dims p q (HS.out.1.mod0 (by first | exact (((Mod.refl _ _).alloc _).drewN _).drew | exact ((Mod.refl _ _).alloc _).drewN _)) (HH.out.2.2.2.2.2.2.1.mod0 (HR.out.mod.trans (by first | exact (((Mod.refl _ _).alloc _).drewN _).drew | exact ((Mod.refl _ _).alloc _).drewN _))) HS.out.2.1 HH.out.2.2.2.2.2.2.2.1 hdm).mono ?_; rintro _ w1 ⟨⟨r, rfl, hr⟩, m1, rfl⟩; have q2 : (FloatKind.f64.format.order r y == some .eq) = true := (hr.eq HS.out.2.2.2.1).trans (decide_eq_true rfl); have q2n : (FloatKind.f64.format.order r y != some .eq) = false := (by rw [bne, q2]; rfl); clear hr))
      obtain ⟨W5, eW5⟩ : ∃ W5, W5 = (wr.alloc (Obj.cells #[.slice p.A dims p.c, .float .f64 d] 68)).drewN (1 + m1) := ⟨_, rfl⟩
      rw [← eW5]
      have hm5 : Mod (fun _ => False) wr W5 := by rw [eW5]; exact ((Mod.refl _ _).alloc _).drewN _
      have y0 : W5.cell? ⟨wr.heap.size, 0, none⟩ = some (.slice p.A dims p.c) := by rw [eW5]; exact HY.out.1
      have HM5 := Lib.hid hm5
      clear hm5 eW5 q1 q1n q2 q2n
      have hkl : ((fs.take k).map (·.1)).length = k := by rw [List.length_map, List.length_take, HH.out.1.len]; omega
      have HKL := Lib.hid hkl
      clear hkl
      go_wp2_with (at_builtin; go_loud (refine wpList_append_lies _ (by rfl) (.tmp 50) (.tmp 53) 22 (by rfl) w.heap.size 24 i0 _ 1 24 Tryz.underlying22 HI.out.1 HI.out.2.1 HI.out.2.2.1 HI.out.2.2.2 rfl (by omega) u9 k (((fs.take k).map (·.1)).map TP.v) (by rfl) ((HR.out.own.kept HM5.out.grownBy (Decidable.em _)).alloc _) ⟨W5.heap.size, 0, none⟩ 1 1 [.slice p.A dims p.c] (by rfl) (by rfl) (World.news_of_block (cs := #[.slice p.A dims p.c]) (t := 24) (fr := (0, 0)) (heap_alloc_new W5 _)) (by simp [Value.oneCell']) (by omega) (by unfold maxLen; omega) (by omega) (by have := HR.out.mod.size; have := HM5.out.size; simp; omega) (W5.heap.size + 1) (by simp) ?_; intro gg cap w3 hown3 hgrow hat hlt3; have HG := Lib.hid (And.intro hown3 (And.intro hgrow hat)); clear hown3 hgrow hat))
      go_roundw
      case rel =>
        refine ⟨k + 1, by omega, by go_num, ?_⟩
        rw [HS.out.2.2.1, List.map_append]
        refine HR.out.step (p := p) HM5.out ?_ HG.out.2.1
        have h := HG.out.1
        have e : p.v = .slice p.A dims p.c := by rw [← HS.out.2.2.2.2]; rfl
        rw [e]
        exact h
      case measure => simp [intOf]; omega
    · obtain rfl : k = n := by omega
      have h := HR.out
      rw [List.take_of_length_le (by rw [HH.out.1.len]; exact Nat.le_refl _)] at h
      obtain ⟨A, c, rfl, hs⟩ := h.rows
      have HSL := Lib.hid hs
      clear h hs
      go_wp2_with (go_at_call 27; refine (among_at A I k c m ci dims (fs.map (·.1)) ps _ ⟨HSL.out, fun p hp => (by obtain ⟨x, hx, rfl⟩ := List.mem_map.1 hp; exact ⟨(HH.out.2.1 x hx).1.mod HR.out.mod, (HH.out.2.1 x hx).2.1⟩)⟩ (HH.out.2.2.2.2.1.mod HR.out.mod) (fun p hp => (by obtain ⟨x, hx, rfl⟩ := List.mem_map.1 hp; exact (HH.out.2.1 x hx).2.2)) HH.out.2.2.2.2.2.1 hn (by omega) HH.out.2.2.2.2.2.2.2.2.1).mono ?_; rintro _ w2 ⟨rfl, hm2⟩; have HM2 := Lib.hid hm2; clear hm2)
      go_ret
      exact ⟨rfl, HR.out.mod.trans HM2.out⟩
end Go.Proofs.YtmeooadgdagiiaaGreat

namespace Go.Proofs.YtmeooadgdagiiaaGreat.K
open Go.RowKit Lox Go.Sort
set_option linter.unusedVariables false
attribute [local go_sem] run_store_flt run_store_fn

def flatF (fs : List (TP × Nat)) : List Value := fs.flatMap fun x => [x.1.v, .float .f64 x.2]

theorem flatF_length (fs : List (TP × Nat)) : (flatF fs).length = 2 * fs.length := by
  induction fs with
  | nil => rfl
  | cons x fs ih => simp only [flatF, List.flatMap_cons, List.length_append, List.length_cons, List.length_nil] at ih ⊢; omega

theorem flatF_get (fs : List (TP × Nat)) : ∀ (i : Nat) (x : TP × Nat), fs[i]? = some x → (flatF fs)[i * 2]? = some x.1.v ∧ (flatF fs)[i * 2 + 1]? = some (.float .f64 x.2) := by
  induction fs with
  | nil => intro i x h; simp at h
  | cons y fs ih =>
    intro i x h
    cases i with
    | zero => simp at h; subst h; exact ⟨rfl, rfl⟩
    | succ i =>
      have := ih i x (by simpa using h)
      have e : (i + 1) * 2 = i * 2 + 1 + 1 := by omega
      rw [e]
      exact ⟨this.1, this.2⟩

theorem flatF_snoc (fs : List (TP × Nat)) (x : TP × Nat) : flatF (fs ++ [x]) = flatF fs ++ [x.1.v, .float .f64 x.2] := by simp [flatF]

/-- What has been found so far, in a row v of its own. -/
structure KF (w w' : World) (dims : Nat) (v : Value) (ts : List XT) (fs : List (TP × Nat)) : Prop where
  own : w'.ownsRow w.heap.size 68 2 v fs.length (flatF fs)
  same : fs.map (fun x => (x.1.xs, x.2)) = ts.map (fun t => (t.2.xs, t.1.1))
  ok : ∀ x ∈ fs, x.1.Ok w' dims ∧ ∀ b o, x.1.A = some ⟨b, o, none⟩ → w.heap.size ≤ b ∧ v.ownBlock ≠ some b
  mod : Mod (fun _ => False) w w'

theorem KF.step {w w' w1 w3 : World} {dims : Nat} {v : Value} {ts : List XT} {fs : List (TP × Nat)} {t : XT} {A2 : Option Addr} {c2 g cap : Nat} (h : KF w w' dims v ts fs) (hdm : 0 < dims) (hp : t.2.xs.length = dims) (hm : Mod (fun _ => False) w' w1) (hs : Sl w1 A2 dims 1 (flts t.2.xs))
    (hA : ∀ b o, A2 = some ⟨b, o, none⟩ → w'.heap.size ≤ b) {o : Obj} (hown : w3.ownsRow w.heap.size 68 2 (.slice (some ⟨g, 0, none⟩) (fs.length + 1) cap) (fs.length + 1) (flatF fs ++ [.slice A2 dims c2, .float .f64 t.1.1]))
    (hgrow : (w1.alloc o).grownBy w3 v.ownBlock) (hat : v.ownBlock = some g ∨ g = w1.heap.size + 1) (hob : ∀ b, v.ownBlock = some b → w.heap.size ≤ b ∧ b < w'.heap.size) :
    KF w w3 dims (.slice (some ⟨g, 0, none⟩) (fs.length + 1) cap) (ts ++ [t]) (fs ++ [(⟨A2, c2, t.2.xs⟩, t.1.1)]) := by
  have hs1 := hm.size
  have hs0 := h.mod.size
  have keep : ∀ q : TP, q.Ok w1 dims → (∀ b o, q.A = some ⟨b, o, none⟩ → v.ownBlock ≠ some b) → q.Ok w3 dims := by
    intro q hq hne
    refine ⟨hq.1, hq.2.1, fun h0 => ?_⟩
    obtain ⟨b, o', e, hc⟩ := hq.2.2 h0
    refine ⟨b, o', e, fun j u hu => ?_⟩
    have hcj := hc j u hu
    have hlt := lt_of_cell hcj
    exact (hgrow.cell_far _ (by rw [World.size_alloc]; exact Nat.lt_succ_of_lt hlt) (Ne.symm (hne b o' e))).trans ((World.cell?_alloc_past _ _ _ hlt).trans hcj)
  refine ⟨by rw [List.length_append, flatF_snoc]; simpa [TP.v, hp] using hown, by simp [h.same], ?_, ?_⟩
  · intro q hq
    rcases List.mem_append.1 hq with hq | hq
    · obtain ⟨k1, k2⟩ := h.ok q hq
      refine ⟨keep q.1 ⟨k1.1, k1.2.mod hm⟩ (fun b o e => (k2 b o e).2), fun b o e => ⟨(k2 b o e).1, fun e2 => ?_⟩⟩
      have e2 : some g = some b := e2
      injection e2 with e2
      subst e2
      have hlt : g < w'.heap.size := (k1.2.far (by omega)) (by rw [k1.1]; exact hdm) g o e
      rcases hat with h1 | h1
      · exact (k2 g o e).2 h1
      · omega
    · rw [List.mem_singleton.1 hq]
      refine ⟨keep _ ⟨hp, by show Sl w1 A2 t.2.xs.length 1 _; rw [hp]; exact hs⟩ (fun b o e h1 => ?_), fun b o e => ⟨by have := hA b o e; omega, fun e2 => ?_⟩⟩
      · have := hA b o e
        have := (hob b h1).2
        omega
      · have e2 : some g = some b := e2
        injection e2 with e2
        subst e2
        have h2 := hA g o e
        have hlt : g < w1.heap.size := (hs.far (by omega)) hdm g o e
        rcases hat with h1 | h1
        · have := (hob g h1).2; omega
        · omega
  · exact ((h.mod.trans hm).alloc o).grown hgrow (fun k e hk => by have := (hob k e).1; omega)

/-- What kfound tells. -/
def KfTold (dims : Nat) (ts : List XT) (w : World) (e : Ending) (w' : World) : Prop :=
  ∃ (F : Option Addr) (c : Nat) (fs : List (TP × Nat)), e = .returned (.slice F ts.length c) ∧ FRows w' F ts.length fs ∧ fs.map (fun x => (x.1.xs, x.2)) = ts.map (fun t => (t.2.xs, t.1.1)) ∧ (∀ x ∈ fs, x.1.Ok w' dims) ∧ (∀ b o, F = some ⟨b, o, none⟩ → w.heap.size ≤ b) ∧ (∀ x ∈ fs, ∀ b o, x.1.A = some ⟨b, o, none⟩ → w.heap.size ≤ b) ∧ Mod (fun _ => False) w w'

theorem KF.told {w w' : World} {dims : Nat} {v : Value} {ts : List XT} {fs : List (TP × Nat)} (h : KF w w' dims v ts fs) : KfTold dims ts w (.returned v) w' := by
  have hl : fs.length = ts.length := by have := congrArg List.length h.same; simpa using this
  rcases h.own.2 with ⟨rfl, h0⟩ | ⟨g, cap, cur, e1, hB, hg, hc, hcm, hsz, ht⟩
  · have hf : fs = [] := List.length_eq_zero_iff.1 h0
    subst hf
    have hn : ts.length = 0 := hl.symm
    exact ⟨none, 0, [], by rw [hn], ⟨hl, fun h => by omega⟩, h.same, (fun x hx => absurd hx List.not_mem_nil), (fun b o e => nomatch e), (fun x hx => absurd hx List.not_mem_nil), h.mod⟩
  · subst e1
    refine ⟨some ⟨g, 0, none⟩, cap, fs, by rw [hl], ⟨hl, fun _ => ⟨g, 0, rfl, fun i x hx => ?_⟩⟩, h.same, fun x hx => (h.ok x hx).1, fun b o e => by cases e; exact hB, fun x hx b o e => ((h.ok x hx).2 b o e).1, h.mod⟩
    have hb : Blk w' g 68 cur.toList := hg
    have hi : i < fs.length := (List.getElem?_eq_some_iff.1 hx).1
    obtain ⟨f1, f2⟩ := flatF_get fs i x hx
    rw [← ht] at f1 f2
    rw [List.getElem?_take_of_lt (by omega)] at f1 f2
    rw [Nat.zero_add]
    exact ⟨hb.at f1, hb.at f2⟩

/-- Elements of a heap, in memory. -/
def FSrc (w : World) (hb : Nat) (ts : List XT) : Prop := ∀ i t, ts[i]? = some t → w.cell? ⟨hb, i * 2, none⟩ = some (.iface 50 t.2.v) ∧ w.cell? ⟨hb, i * 2 + 1, none⟩ = some (.float .f64 t.1.1)

theorem info_found : (Tryz.prog.info? 68).map (fun i => (i.zero, i.size, i.bytes)) = some (some (.agg #[.slice none 0 0, .float .f64 0]), 2, 32) := by kernel_rfl

set_option maxRecDepth 100000 in
set_option maxHeartbeats 8000000 in
theorem kfound_at (hb c dims : Nat) (ts : List XT) (w : World) (hs : FSrc w hb ts) (ho : ∀ t ∈ ts, t.2.Ok w dims) (hn : ts.length ≤ 1099511627776) (hdm : 0 < dims ∧ dims ≤ 1099511627776) :
    Calls Tryz.prog 25 #[.slice (some ⟨hb, 0, none⟩) ts.length c] w (KfTold dims ts w) := by
  obtain ⟨i0, hi0, hz0, hz1, hz2⟩ := info_parts info_found
  have HI := Lib.hid (And.intro hi0 (And.intro hz0 (And.intro hz1 hz2)))
  clear hi0 hz0 hz1 hz2
  obtain ⟨n, en⟩ : ∃ n, n = ts.length := ⟨_, rfl⟩
  have HH := Lib.hid (And.intro hs (And.intro ho en))
  have hta := run_assert_pt
  have heq : ∀ (A : Value) (w : World), (binOp .neq 81 (.iface 50 A) .nilIface).run Tryz.prog w = .ok (.bool true) w := fun _ _ => by kernel_rfl
  rw [← en] at hn ⊢
  clear hs ho en
  go_enter Tryz.func25, Tryz.ntmps25
  go_wp2_with fail
  go_loopw [3, 8] (fun v i w' => ∃ (k : Nat) (fs : List (TP × Nat)), k ≤ n ∧ i = .int .i64 k ∧ Hid (KF w w' dims v (ts.take k) fs ∧ fs.length = k)) (fun _ i _ => n - (intOf i).toNat)
  case atStart => exact ⟨0, [], Nat.zero_le _, rfl, ⟨World.ownsRow_nil _ _ _ _, rfl, fun p hp => (by cases hp), Mod.refl _ _⟩, rfl⟩
  case round =>
    obtain ⟨k, fs, hk, rfl, HR⟩ := hrel
    by_cases hlt : k < n
    · have hk2 : k < ts.length := by rw [← HH.out.2.2]; exact hlt
      obtain ⟨t, et⟩ : ∃ t, t = ts[k] := ⟨_, rfl⟩
      have hget : ts[k]? = some t := by rw [et]; exact List.getElem?_eq_getElem hk2
      have hTK : ts.take (k + 1) = ts.take k ++ [t] := by rw [List.take_succ_eq_append_getElem hk2, et]
      have hto := HH.out.2.1 t (by rw [et]; exact List.getElem_mem hk2)
      obtain ⟨d0, d1⟩ := HH.out.1 k t hget
      obtain ⟨⟨r, vv⟩, p⟩ := t
      have c0 : wr.cell? ⟨hb, k * 2, none⟩ = some (.iface 50 (.slice p.A dims p.c)) := by
        rw [HR.out.1.mod.cell (lt_of_cell d0) (fun h => h), d0]
        show some (Value.iface _ (.slice p.A p.xs.length p.c)) = _
        rw [hto.1]
      have c1 : wr.cell? ⟨hb, k * 2 + 1, none⟩ = some (.float .f64 r) := by rw [HR.out.1.mod.cell (lt_of_cell d1) (fun h => h), d1]
      have hsl : Sl wr p.A dims 1 (flts p.xs) := by have := hto.2.mod HR.out.1.mod; rw [hto.1] at this; exact this
      have HS := Lib.hid (And.intro hsl (And.intro hto.1 (And.intro hTK (fun b hb => own_block HR.out.1.own (b := b) hb))))
      obtain ⟨W1, eW1⟩ : ∃ W1, W1 = wr.alloc (.cells #[.iface 50 (.slice p.A dims p.c), .float .f64 r] 95) := ⟨_, rfl⟩
      have hb1 : Blk W1 wr.heap.size 95 [.iface 50 (.slice p.A dims p.c), .float .f64 r] := by rw [eW1]; exact Blk.new' _ _ _
      have hm1 : Mod (fun _ => False) wr W1 := by rw [eW1]; exact (Mod.refl _ _).alloc _
      have HE := Lib.hid (And.intro eW1 (And.intro hb1 hm1))
      have ce0 := hb1.at (i := 0) rfl
      have ce1 := hb1.at (i := 1) rfl
      have hsz1 : W1.heap.size = wr.heap.size + 1 := by rw [eW1, World.size_alloc]
      clear et hget hTK hto d0 d1 hsl hk2 eW1 hb1 hm1
      have i0' : (0 : Int) ≤ k := by omega
      have i1' : (k : Int) < n := by omega
      go_upto_region 6 with fail
      rw [← HE.out.1]
      have HE1 := Lib.hid ce1
      go_region_law
        (first
          | (go_simp; go_at_call 18; (refine (floats_any p.A dims p.c p.xs _ ((HS.out.1.mod HE.out.2.2).drew) hdm.2 hdm.1).mono ?_; rintro _ w5 ⟨A2, c2, rfl, hs2, hm2, hb2⟩; have hw5 : Mod (fun _ => False) W1 w5 := ((Mod.refl _ _).drew.trans hm2); have hz := hw5.size; have ce5 : w5.cell? ⟨wr.heap.size, 1, none⟩ = some (.float .f64 r) := (hw5.cell (by show wr.heap.size < W1.heap.size; omega) (fun h => h)).trans HE1.out))
          | ((refine step_append_lies _ (by rfl) _ _ _ (by rfl) w.heap.size 68 i0 _ 2 32 Tryz.underlying32 HI.out.1 HI.out.2.1 HI.out.2.2.1 HI.out.2.2.2 rfl (by omega) u3 fs.length (flatF fs) (by rfl) ((HR.out.1.own.kept (HE.out.2.2.trans hw5).grownBy (Decidable.em _)).alloc _) ⟨w5.heap.size, 0, none⟩ 1 1 [.slice A2 dims c2, .float .f64 r] (by rfl) (by rfl) (World.news_of_block (cs := #[.slice A2 dims c2, .float .f64 r]) (t := 68) (fr := (0, 0)) (heap_alloc_new w5 _)) (by simp [Value.oneCell']) (by omega) (by have := HR.out.2; unfold maxLen; omega) (by have := HR.out.2; omega) (by have := HR.out.1.mod.size; simp; omega) (w5.heap.size + 1) (by simp) ?_; intro gg gcap w6 hown6 hgrow hat hlt6)))
      all_goals
        have hK := HR.out.1.step (t := ((r, vv), p)) hdm.1 HS.out.2.1 (HE.out.2.2.trans hw5) hs2 (fun b o e => by have := hb2 b o e; have h2 : W1.heap.size ≤ b := this; omega) hown6 hgrow hat HS.out.2.2.2
        have HK := Lib.hid hK
        clear hown6 hgrow hat hs2 hb2 hK hm2 hw5
        go_wp2_with fail
        go_roundw
        case rel =>
          refine ⟨k + 1, fs ++ [(⟨A2, c2, p.xs⟩, r)], by omega, by go_num, ?_, by simp [HR.out.2]⟩
          rw [HS.out.2.2.1]
          exact HK.out
        case measure => simp [intOf]; omega
    · obtain rfl : k = n := by omega
      go_wp2_with fail
      go_ret
      have h1 := HR.out.1
      rw [List.take_of_length_le (by rw [← HH.out.2.2]; exact Nat.le_refl _)] at h1
      have h2 := h1.told
      exact h2
end Go.Proofs.YtmeooadgdagiiaaGreat.K

namespace Go.Proofs.YtmeooadgdagiiaaGreat
open Go.RowKit Lox
set_option linter.unusedVariables false
attribute [local go_sem] run_store_flt run_store_fn
attribute [local go_sem ↓] Go.wp_at_zero Go.wp_at_succ

/-- A point well made, in a block from L on. -/
def TP.OkF (L : Nat) (w : World) (dims : Nat) (p : TP) : Prop := p.Ok w dims ∧ ∀ b o, p.A = some ⟨b, o, none⟩ → L ≤ b

theorem TP.OkF.mod0 {L : Nat} {w w' : World} {dims : Nat} {p : TP} (h : TP.OkF L w dims p) (hm : Mod (fun _ => False) w w') : TP.OkF L w' dims p := ⟨h.1.mod0 hm, h.2⟩
theorem TP.OkF.low {L M : Nat} {w : World} {dims : Nat} {p : TP} (h : TP.OkF M w dims p) (hl : L ≤ M) : TP.OkF L w dims p := ⟨h.1, fun b o e => Nat.le_trans hl (h.2 b o e)⟩
theorem TP.OkF.setNode {L : Nat} {w : World} {dims g pl i : Nat} {p q : TP} {ql qr : Option Addr} {bx : Option BX} (hp : TP.OkF L w dims p) (h : Blk w g 84 (nodeCells q pl (.pointer ql) (.pointer qr) bx)) (v : Value) : TP.OkF L (w.setCell ⟨g, i, none⟩ v) dims p := ⟨hp.1.setNode h v, hp.2⟩

/-- The tree has been made. -/
def KnMadeF (dims : Nat) (mt : MT) (w : World) (e : Ending) (w' : World) : Prop :=
  ∃ (v : Value) (mt' : MT), e = .returned v ∧ mt'.In w' v ∧ mt'.T.map TP.xs = mt.T.map TP.xs ∧ (∀ g ∈ mt'.gs, w.heap.size ≤ g) ∧ (∀ p ∈ mt'.pts, TP.OkF w.heap.size w' dims p) ∧ Mod (fun _ => False) w w'

set_option maxRecDepth 100000 in
set_option maxHeartbeats 8000000 in
theorem knodeF_at (A : Option Addr) (c n dims B : Nat) (rs : List KR) (hdm : 0 < dims ∧ dims ≤ 4) (hn : n = rs.length) (hbx : ∀ x ∈ rs, x.mn.xs = [] ∨ (x.mn.xs.length = dims ∧ x.mx.xs.length = dims)) (mt : MT) :
    ∀ (i : Nat) (I : Int) (w : World), I = mt.at i → KS B w dims (.slice A n c) rs → Seg rs mt i → Calls Tryz.prog 34 #[.slice A n c, .int .i64 I] w (KnMadeF dims mt w) := by
  induction mt with
  | nil =>
    intro i I w hI hK hS
    have hI : I = -1 := hI
    subst hI
    clear hK hS
    go_enter Tryz.func34, Tryz.ntmps34
    go_wp2
    go_ret
    exact ⟨_, .nil, rfl, rfl, rfl, (fun g hg => by cases hg), (fun p hp => by cases hp), Mod.refl _ _⟩
  | node g0 p pl bx0 l r ihl ihr =>
    intro i I w hI hK hS
    have hI2 : I = (i : Int) := hI
    clear hI
    subst hI2
    obtain ⟨x, hxr, hxp⟩ := hS 0 _ rfl
    rw [Nat.add_zero] at hxr
    have hil := (List.getElem?_eq_some_iff.1 hxr).1
    obtain ⟨gb, cap, e5, -, -⟩ := hK.own.form (by omega)
    injection e5 with e5 e6 e7
    subst e5
    have hkc := fun (j : Nat) (hj : j < 6) => (hK.cell hn hxr (j := j) hj).1
    have hok := hK.ok x (List.mem_of_getElem? hxr)
    have hbxx := hbx x (List.mem_of_getElem? hxr)
    have hSl := hS.left
    have hSr := hS.right
    obtain ⟨⟨A0, cc0, xs⟩, plx, cl, fu, ⟨A1, k1, ys1⟩, ⟨A3, k3, ys3⟩⟩ := x
    simp only [KR.plain, PR.mk.injEq] at hxp
    obtain ⟨exs, epl, ecl, efu, -, -⟩ := hxp
    have hxl : xs.length = dims := hok.1.1.1
    obtain ⟨n1, en1⟩ : ∃ n1, n1 = ys1.length := ⟨_, rfl⟩
    obtain ⟨n3, en3⟩ : ∃ n3, n3 = ys3.length := ⟨_, rfl⟩
    have c0 : w.cell? ⟨gb, i * 6, none⟩ = some (.slice A0 dims cc0) := by
      have h := hkc 0 (by omega)
      rw [Nat.add_zero] at h
      rw [h, ← hxl]; rfl
    have c1 : w.cell? ⟨gb, i * 6 + 1, none⟩ = some (.int .i64 plx) := hkc 1 (by omega)
    have c2 : w.cell? ⟨gb, i * 6 + 2, none⟩ = some (.int .i64 cl) := hkc 2 (by omega)
    have c3 : w.cell? ⟨gb, i * 6 + 3, none⟩ = some (.int .i64 fu) := hkc 3 (by omega)
    have c4 : w.cell? ⟨gb, i * 6 + 4, none⟩ = some (.slice A1 n1 k1) := by rw [hkc 4 (by omega), en1]; rfl
    have c5 : w.cell? ⟨gb, i * 6 + 5, none⟩ = some (.slice A3 n3 k3) := by rw [hkc 5 (by omega), en3]; rfl
    have hs0 : Sl w A0 dims 1 (flts xs) := by have := hok.1.1.2; rw [← hxl]; exact this
    have sl0 : ∀ (A : Option Addr) (k : Nat) (ys : List Nat), TP.Own0 B w dims (.slice (some ⟨gb, 0, none⟩) n c) ⟨A, k, ys⟩ → Sl w A ys.length 1 (flts ys) := by
      intro A k ys h
      rcases h with h | h
      · cases h; exact ⟨rfl, fun h0 => absurd h0 (by decide)⟩
      · exact h.1.2
    have hs1 : Sl w A1 n1 1 (flts ys1) := by rw [en1]; exact sl0 _ _ _ hok.2.1
    have hs3 : Sl w A3 n3 1 (flts ys3) := by rw [en3]; exact sl0 _ _ _ hok.2.2
    have hPb : n1 = 0 ∨ (0 < n1 ∧ n1 ≤ 4 ∧ 0 < n3 ∧ n3 ≤ 4) := by
      rcases hbxx with h | h
      · left; rw [en1]; show ys1.length = 0; have h : ys1 = [] := h; rw [h]; rfl
      · right
        have h1 : ys1.length = dims := h.1
        have h3 : ys3.length = dims := h.2
        omega
    have hi : ¬ n ≤ i := by omega
    have hsz0 := hK.own
    have IHL := Lib.hid ihl
    have IHR := Lib.hid ihr
    have HN := Lib.hid hK
    have HS := Lib.hid (And.intro hs0 (And.intro hs1 hs3))
    have HPB := Lib.hid hPb
    have HE := Lib.hid (And.intro exs (And.intro epl (And.intro ecl (And.intro efu (And.intro hxl (And.intro hSl hSr))))))
    clear ihl ihr hK hS hxr hkc hok hbxx hSl hSr exs epl ecl efu hxl sl0 hs0 hs1 hs3 hPb en1 en3 hsz0 e6 e7 hil hn
    go_enter Tryz.func34, Tryz.ntmps34
    go_wp2_with fail
    go_cut [6] from 19 to 31 (fun q wx => ∃ g A2 c2 bq bx, q = .pointer (some ⟨g, 0, none⟩) ∧ boxV bx = .pointer bq ∧ w.heap.size + 1 ≤ g ∧ Blk wx g 84 (nodeCells ⟨A2, c2, xs⟩ plx (.pointer none) (.pointer none) bx) ∧ TP.OkF w.heap.size wx dims ⟨A2, c2, xs⟩ ∧ Mod (fun _ => False) (w.alloc (.cells #[.slice A0 dims cc0, .int .i64 plx, .int .i64 cl, .int .i64 fu, .slice A1 n1 k1, .slice A3 n3 k3] 91)) wx)
    case first =>
      clear c0 c1 c2 c3 c4 c5
      have B0 := (Blk.new' w #[.slice A0 dims cc0, .int .i64 plx, .int .i64 cl, .int .i64 fu, .slice A1 n1 k1, .slice A3 n3 k3] 91).drew
      have hb0 := B0.lt
      have K4 : ∀ w' : World, Blk w' w.heap.size 91 [.slice A0 dims cc0, .int .i64 plx, .int .i64 cl, .int .i64 fu, .slice A1 n1 k1, .slice A3 n3 k3] → (fun w' => w'.cell? ⟨w.heap.size, 0, none⟩ = some (.slice A0 dims cc0) ∧ w'.cell? ⟨w.heap.size, 1, none⟩ = some (.int .i64 plx) ∧ w'.cell? ⟨w.heap.size, 4, none⟩ = some (.slice A1 n1 k1) ∧ w'.cell? ⟨w.heap.size, 5, none⟩ = some (.slice A3 n3 k3)) w' := fun w' h => ⟨h.at (i := 0) rfl, h.at (i := 1) rfl, h.at (i := 4) rfl, h.at (i := 5) rfl⟩
      have HB0 := Lib.hid B0
      have HK4 := Lib.hid K4
      clear B0 K4
      go_region_held3 (fun w' => w'.cell? ⟨w.heap.size, 0, none⟩ = some (.slice A0 dims cc0) ∧ w'.cell? ⟨w.heap.size, 1, none⟩ = some (.int .i64 plx) ∧ w'.cell? ⟨w.heap.size, 4, none⟩ = some (.slice A1 n1 k1) ∧ w'.cell? ⟨w.heap.size, 5, none⟩ = some (.slice A3 n3 k3)) (first | exact HK4.out _ HB0.out | exact HK4.out _ (HB0.out.mod hma (fun h => h)) | exact HK4.out _ ((HB0.out.mod hma (fun h => h)).alloc _))
        (first
          | (go_at_call 18; first
             | (refine (floats_any A0 dims cc0 xs _ ((HS.out.1.alloc _).drew) (by omega) hdm.1).mono ?_; rintro _ w2 ⟨A2, cc2, rfl, hs2, hma, hb2⟩; have hb3 : ∀ b o, A2 = some ⟨b, o, none⟩ → w.heap.size ≤ b := fun b o e => Nat.le_trans (((Mod.refl (fun _ => False) w).alloc _).drew).size (hb2 b o e); have hsz := hma.size; rw [show ∀ x : World, x.drew.heap.size = x.heap.size from fun _ => rfl, World.size_alloc] at hsz)
             | (refine (floats_any A0 dims cc0 xs _ (((HS.out.1.alloc _).drew).mod hma) (by omega) hdm.1).mono ?_; rintro _ w2 ⟨A2, cc2, rfl, hs2, hmb, hb2⟩; have hb3 : ∀ b o, A2 = some ⟨b, o, none⟩ → w.heap.size ≤ b := fun b o e => Nat.le_trans ((((Mod.refl (fun _ => False) w).alloc _).drew).trans hma).size (hb2 b o e); have hmc := hma; clear hma; have hma := hmc.trans hmb; have hsz := hma.size; rw [show ∀ x : World, x.drew.heap.size = x.heap.size from fun _ => rfl, World.size_alloc] at hsz))
          | (go_at_call 41; first
             | (refine (kbox_ptr A1 A3 n1 n3 k1 k3 ys1 ys3 _ ((HS.out.2.1.alloc _).drew) ((HS.out.2.2.alloc _).drew) HPB.out).mono ?_; rintro _ w4 ⟨⟨bq, bx, rfl, hbq⟩, hma⟩)
             | (refine (kbox_ptr A1 A3 n1 n3 k1 k3 ys1 ys3 _ (((HS.out.2.1.alloc _).drew).mod hma) (((HS.out.2.2.alloc _).drew).mod hma) HPB.out).mono ?_; rintro _ w4 ⟨⟨bq, bx, rfl, hbq⟩, hmb⟩; have hsx := hs2; clear hs2; have hs2 := hsx.mod hmb; have hmc := hma; clear hma; have hma := hmc.trans hmb; have hsz := hma.size; rw [show ∀ x : World, x.drew.heap.size = x.heap.size from fun _ => rfl, World.size_alloc] at hsz)))
      all_goals
        go_wp2_with fail
        go_meet
        exact ⟨_, A2, cc2, bq, bx, rfl, hbq, (by omega), (by have e : nodeCells ⟨A2, cc2, xs⟩ plx (.pointer none) (.pointer none) bx = [.iface 50 (.slice A2 dims cc2), .int .i64 plx, .pointer none, .pointer none, .pointer bq] := (by unfold nodeCells; rw [hbq, ← HE.out.2.2.2.2.1]; rfl); rw [e]; exact Blk.new' _ _ _), ⟨⟨HE.out.2.2.2.2.1, by show Sl _ A2 xs.length 1 _; rw [HE.out.2.2.2.2.1]; exact hs2.alloc _⟩, hb3⟩, (((Mod.refl _ _).drew).trans hma).alloc _⟩
    case rest =>
      obtain ⟨g, A2, C2, bq, bx, rfl, hbq, hg, hb, hok2, hm⟩ := hcut
      have hB0 : Blk wc w.heap.size 91 [.slice A0 dims cc0, .int .i64 plx, .int .i64 cl, .int .i64 fu, .slice A1 n1 k1, .slice A3 n3 k3] := (Blk.new' w #[.slice A0 dims cc0, .int .i64 plx, .int .i64 cl, .int .i64 fu, .slice A1 n1 k1, .slice A3 n3 k3] 91).mod hm (fun h => h)
      have hmw : Mod (fun _ => False) w wc := ((Mod.refl _ _).alloc _).trans hm
      have hgl := hb.lt
      have j2 := hB0.at (i := 2) rfl
      have j3 := hB0.at (i := 3) rfl
      have K : Hid (Blk wc g 84 (nodeCells ⟨A2, C2, xs⟩ plx (.pointer none) (.pointer none) bx) ∧ TP.OkF w.heap.size wc dims ⟨A2, C2, xs⟩ ∧ Blk wc w.heap.size 91 [.slice A0 dims cc0, .int .i64 plx, .int .i64 cl, .int .i64 fu, .slice A1 n1 k1, .slice A3 n3 k3] ∧ Mod (fun _ => False) w wc ∧ boxV bx = .pointer bq) := ⟨hb, hok2, hB0, hmw, hbq⟩
      clear hm hb hok2 hB0 hmw hbq c0 c1 c2 c3 c4 c5
      go_upto_if 35 with fail
      go_cut [] from 35 to 42 (fun wx => ∃ (lv : Option Addr) (t1 : MT), Blk wx g 84 (nodeCells ⟨A2, C2, xs⟩ plx (.pointer lv) (.pointer none) bx) ∧ t1.In wx (.pointer lv) ∧ (∀ k ∈ t1.gs, g < k) ∧ (∀ p ∈ t1.pts, TP.OkF w.heap.size wx dims p) ∧ Blk wx w.heap.size 91 [.slice A0 dims cc0, .int .i64 plx, .int .i64 cl, .int .i64 fu, .slice A1 n1 k1, .slice A3 n3 k3] ∧ TP.OkF w.heap.size wx dims ⟨A2, C2, xs⟩ ∧ Mod (fun _ => False) w wx ∧ t1.T.map TP.xs = l.T.map TP.xs)
      case first =>
        by_cases h1 : (i : Int) < cl
        · go_wp2_with (go_at_call 34; refine (IHL.out (i + 1) cl wc HE.out.2.2.1 (HN.out.mod K.out.2.2.2.1) HE.out.2.2.2.2.2.1).mono ?_; rintro _ w3 ⟨lv, t1, rfl, ht1, hx1, hg1, hp1, hm1⟩; obtain ⟨q1, rfl⟩ := ht1.ptr; have y2 : w3.cell? ⟨g, 2, none⟩ = some (.pointer none) := ((K.out.1.mod hm1 (fun h => h)).at (i := 2) rfl); have z2 : w3.frozen? ⟨g, 2, none⟩ = false := ((K.out.1.mod hm1 (fun h => h)).frozen 2); have HT := Lib.hid (And.intro ht1 (And.intro hx1 (And.intro hg1 (And.intro hp1 hm1)))); clear ht1 hx1 hg1 hp1 hm1)
          go_meet
          obtain ⟨ht1, hx1, hg1, hp1, hm1⟩ := HT.out
          have b3 := K.out.1.mod hm1 (fun h => h)
          exact ⟨q1, t1, b3.set 2 (.pointer q1), ht1.setOff (fun k hk => by have := hg1 k hk; omega) _, (fun k hk => by have := hg1 k hk; omega), (fun p hp => ((hp1 p hp).low K.out.2.2.2.1.size).setNode b3 _), (K.out.2.2.1.mod hm1 (fun h => h)).other _ (by show g ≠ w.heap.size; omega), (K.out.2.1.mod0 hm1).setNode b3 _, (K.out.2.2.2.1.trans hm1).set (.inr (by show w.heap.size ≤ g; omega)) _, hx1⟩
        · have hnil : l = .nil := MT.at_lt (by rw [← HE.out.2.2.1]; exact h1)
          have HNI := Lib.hid hnil
          clear hnil
          go_wp2_with fail
          go_meet
          exact ⟨none, .nil, K.out.1, rfl, (fun k hk => by cases hk), (fun p hp => by cases hp), K.out.2.2.1, K.out.2.1, K.out.2.2.2.1, by rw [HNI.out]⟩
      case rest =>
        obtain ⟨lv, t1, hb1, ht1, hg1, hp1, hB1, hok1, hm1, hx1⟩ := hcut
        have q1 := hB1.at (i := 3) rfl
        have hgl2 := hb1.lt
        have hsz := hm1.size
        have K2 : Hid (Blk wc g 84 (nodeCells ⟨A2, C2, xs⟩ plx (.pointer lv) (.pointer none) bx) ∧ t1.In wc (.pointer lv) ∧ (∀ k ∈ t1.gs, g < k) ∧ (∀ p ∈ t1.pts, TP.OkF w.heap.size wc dims p) ∧ TP.OkF w.heap.size wc dims ⟨A2, C2, xs⟩ ∧ Mod (fun _ => False) w wc ∧ t1.T.map TP.xs = l.T.map TP.xs) := ⟨hb1, ht1, hg1, hp1, hok1, hm1, hx1⟩
        clear hb1 ht1 hg1 hp1 hB1 hok1 hm1 hx1 j2 j3
        by_cases h2 : (i : Int) < fu
        · go_wp2_with (go_at_call 34; refine (IHR.out (i + 1 + l.count) fu wc HE.out.2.2.2.1 (HN.out.mod K2.out.2.2.2.2.2.1) HE.out.2.2.2.2.2.2).mono ?_; rintro _ w3 ⟨rv, t2, rfl, ht2, hx2, hg2, hp2, hm2⟩; obtain ⟨q2, rfl⟩ := ht2.ptr; have y3 : w3.cell? ⟨g, 3, none⟩ = some (.pointer none) := ((K2.out.1.mod hm2 (fun h => h)).at (i := 3) rfl); have z3 : w3.frozen? ⟨g, 3, none⟩ = false := ((K2.out.1.mod hm2 (fun h => h)).frozen 3); have HT := Lib.hid (And.intro ht2 (And.intro hx2 (And.intro hg2 (And.intro hp2 hm2)))); clear ht2 hx2 hg2 hp2 hm2)
          go_ret
          obtain ⟨ht2, hx2, hg2, hp2, hm2⟩ := HT.out
          obtain ⟨e1, e2, e3, e4, e5, e6, e7⟩ := K2.out
          have b3 := e1.mod hm2 (fun h => h)
          refine ⟨_, .node g ⟨A2, C2, xs⟩ plx bx t1 t2, rfl, ⟨rfl, .pointer lv, .pointer q2, b3.set 3 (.pointer q2), (e2.mod hm2 (fun _ _ h => h)).setOff e3 _, ht2.setOff (fun k hk => by have := hg2 k hk; omega) _⟩, ?_, ?_, ?_, (e6.trans hm2).set (.inr (by show w.heap.size ≤ g; omega)) _⟩
          · show KB.T.node xs plx (t1.T.map TP.xs) (t2.T.map TP.xs) = KB.T.node p.xs pl (l.T.map TP.xs) (r.T.map TP.xs)
            rw [e7, hx2, HE.out.1, HE.out.2.1]
          · intro k hk
            rcases List.mem_cons.1 hk with rfl | hk
            · omega
            · rcases List.mem_append.1 hk with hk | hk
              · have := e3 k hk; omega
              · have := hg2 k hk; omega
          · intro p' hp'
            rcases List.mem_append.1 hp' with hp' | hp'
            · exact ((e4 p' hp').mod0 hm2).setNode b3 _
            · rcases List.mem_cons.1 hp' with rfl | hp'
              · exact (e5.mod0 hm2).setNode b3 _
              · exact ((hp2 p' hp').low K2.out.2.2.2.2.2.1.size).setNode b3 _
        · have hnil : r = .nil := MT.at_lt2 (by rw [← HE.out.2.2.2.1]; exact h2)
          have HNI := Lib.hid hnil
          clear hnil
          go_wp2_with fail
          go_ret
          obtain ⟨e1, e2, e3, e4, e5, e6, e7⟩ := K2.out
          refine ⟨_, .node g ⟨A2, C2, xs⟩ plx bx t1 .nil, rfl, ⟨rfl, .pointer lv, .pointer none, e1, e2, rfl⟩, ?_, ?_, ?_, e6⟩
          · show KB.T.node xs plx (t1.T.map TP.xs) .nil = KB.T.node p.xs pl (l.T.map TP.xs) (r.T.map TP.xs)
            rw [e7, HE.out.1, HE.out.2.1, HNI.out]; rfl
          · intro k hk
            rcases List.mem_cons.1 hk with rfl | hk
            · omega
            · rcases List.mem_append.1 hk with hk | hk
              · have := e3 k hk; omega
              · cases hk
          · intro p' hp'
            rcases List.mem_append.1 hp' with hp' | hp'
            · exact e4 p' hp'
            · rcases List.mem_cons.1 hp' with rfl | hp'
              · exact e5
              · cases hp'
end Go.Proofs.YtmeooadgdagiiaaGreat

namespace Go.Proofs.YtmeooadgdagiiaaGreat
open Go.RowKit Lox
set_option linter.unusedVariables false
attribute [local go_sem] run_store_flt run_store_fn
attribute [local go_sem ↓] Go.wp_at_zero Go.wp_at_succ

/-- What ktree tells. -/
def TrMadeF (dims n : Nat) (mt : MT) (w : World) (e : Ending) (w' : World) : Prop :=
  ∃ (tb : Nat) (v : Option Addr) (mt' : MT), e = .returned (.pointer (some ⟨tb, 0, none⟩)) ∧ Blk w' tb 56 [.pointer v, .int .i64 n] ∧ mt'.In w' (.pointer v) ∧ mt'.T.map TP.xs = mt.T.map TP.xs ∧ (∀ g ∈ mt'.gs, w.heap.size ≤ g) ∧ (∀ p ∈ mt'.pts, TP.OkF w.heap.size w' dims p) ∧ Mod (fun _ => False) w w'

set_option maxHeartbeats 1000000 in
theorem ktreeF_at (A : Option Addr) (c n dims B : Nat) (rs : List KR) (hdm : 0 < dims ∧ dims ≤ 4) (hn : n = rs.length) (hbx : ∀ x ∈ rs, x.mn.xs = [] ∨ (x.mn.xs.length = dims ∧ x.mx.xs.length = dims)) (mt : MT) (h0 : mt ≠ .nil) (w : World) (hK : KS B w dims (.slice A n c) rs) (hS : Seg rs mt 0) :
    Calls Tryz.prog 23 #[.slice A n c, .int .i64 0] w (TrMadeF dims n mt w) := by
  have hat : (0 : Int) = mt.at 0 := by
    cases mt with
    | nil => exact absurd rfl h0
    | node g p d bx l r => rfl
  have HK : Hid (Calls Tryz.prog 34 #[.slice A n c, .int .i64 0] w (KnMadeF dims mt w)) := knodeF_at A c n dims B rs hdm hn hbx mt 0 0 w hat hK hS
  clear hK hS hn hbx hat h0
  go_enter Tryz.func23, Tryz.ntmps23
  go_wp2_with (go_at_call 34; refine HK.out.mono ?_; rintro _ w1 ⟨v, mt', rfl, h1, h2, h3, h4, h5⟩; obtain ⟨q, rfl⟩ := h1.ptr; have HT := Lib.hid (And.intro h1 (And.intro h2 (And.intro h3 (And.intro h4 h5)))); clear h1 h2 h3 h4 h5)
  go_ret
  obtain ⟨h1, h2, h3, h4, h5⟩ := HT.out
  exact ⟨_, q, mt', rfl, Blk.new' _ _ _, h1.mod ((Mod.refl _ _).alloc _) (fun _ _ h => h), h2, h3, fun p hp => (h4 p hp).mod0 ((Mod.refl _ _).alloc _), h5.alloc _⟩
end Go.Proofs.YtmeooadgdagiiaaGreat

namespace Go.Proofs.YtmeooadgdagiiaaGreat.K.D
open Go.RowKit Lox Go.Sort
set_option linter.unusedVariables false
variable {S : Nat}
attribute [local go_sem] run_store_flt run_store_fn

set_option maxHeartbeats 4000000 in
theorem kmax_at (w : World) (kb hb len cap : Nat) (els : List El) (h : DKS S w kb hb len cap els) (h0 : 0 < len) :
    Calls Tryz.prog 106 #[.pointer (some ⟨kb, 0, none⟩)] w fun e w' => (∃ v b, e = .returned (.agg #[v, .float .f64 b]) ∧ ElAtD S 50 v b (at' els 0)) ∧ Mod (fun _ => False) w w' := by
  have c0 := h.top.1
  obtain ⟨v, b, d0, d1, z0, z1, he⟩ := h.at h0
  simp only [Nat.zero_mul, Nat.zero_add] at d0 d1 z0 z1
  have HE := Lib.hid he
  have hb := h.bds
  have hkb := hb.2.1
  have hhb := hb.2.2.1
  have i1 : (0 : Int) < len := by omega
  have sv : ∀ (w : World) (a : Addr) (m : Mode), (store a v m).run Tryz.prog w = stored Tryz.prog w a v m := fun w a m => run_store _ w a v m (elAt_one he)
  clear h he
  go_enter Tryz.func106, Tryz.ntmps106
  go_wp2
  have hn0 : (w.alloc (.cells #[v, .float .f64 b] 95)).cell? ⟨w.heap.size, 0, none⟩ = some v := (Blk.new' w #[v, .float .f64 b] 95).at (i := 0) rfl
  have hn1 : (w.alloc (.cells #[v, .float .f64 b] 95)).cell? ⟨w.heap.size, 1, none⟩ = some (.float .f64 b) := (Blk.new' w #[v, .float .f64 b] 95).at (i := 1) rfl
  refine bodyPost_ret (v := .agg #[v, .float .f64 b]) (by simp [results, Tryz.results106, go_sem, loadVar, hn0, hn1]) rfl ?_
  exact ⟨⟨v, b, rfl, HE.out⟩, (Mod.refl _ _).alloc _⟩

/-- The last element is dropped. -/
theorem ks_pop {NK CD PT : TypeId} {w : World} {kb hb len cap : Nat} {els : List El} (h : KD S NK CD PT w kb hb len cap els) (h0 : 0 < len) :
    KD S NK CD PT (w.setCell ⟨kb, 0, none⟩ (.slice (some ⟨hb, 0, none⟩) (len - 1) cap)) kb hb (len - 1) cap (els.take (len - 1)) := by
  obtain ⟨vs, sp, b1, b2, hsp, hl, hc, hp, hne⟩ := h
  have hvl : vs.length = els.length := hp.1
  refine ⟨vs.take (len - 1), flat (vs.drop (len - 1)) ++ sp, b1.set 0 _, ?_, ?_, by simp; omega, by omega, hp.take _, hne⟩
  · have h3 := b2.other (a := ⟨kb, 0, none⟩) (.slice (some ⟨hb, 0, none⟩) (len - 1) cap) hne
    rw [← List.append_assoc, ← flat_append, List.take_append_drop]
    exact h3
  · rw [List.length_append, flat_length, List.length_drop]
    omega

attribute [local go_sem] undef in
set_option maxHeartbeats 4000000 in
theorem kpopm_at (w : World) (kb hb len cap : Nat) (els : List El) (h : DKS S w kb hb len cap els) (h0 : 0 < len) (hl : len ≤ 1099511627776) :
    Calls Tryz.prog 107 #[.pointer (some ⟨kb, 0, none⟩)] w fun e w' => (∃ v, e = .returned v) ∧ DKS S w' kb hb (len - 1) cap (els.take (len - 1)) ∧ Mod (fun k => k = kb) w w' := by
  have c0 := h.top.1
  have z0 := h.top.2
  obtain ⟨q, rfl⟩ : ∃ q, len = q + 1 := ⟨len - 1, by omega⟩
  obtain ⟨v, b, d0, d1, f0, f1, he⟩ := h.at (i := q) (by omega)
  have hlc := h.bds.2.2.2.2
  have hK := (ks_pop h h0)
  have hM : Mod (fun k => k = kb) w (w.setCell ⟨kb, 0, none⟩ (.slice (some ⟨hb, 0, none⟩) (q + 1 - 1) cap)) := (Mod.refl (fun k => k = kb) w).set (p := ⟨kb, 0, none⟩) (.inl rfl) _
  rw [Nat.add_sub_cancel] at hK hM ⊢
  have HH := Lib.hid (And.intro hK hM)
  have i1 : (0 : Int) ≤ q := by omega
  clear h he hK hM
  go_enter Tryz.func107, Tryz.ntmps107
  go_wp2
  go_region
  all_goals
    go_wp2
    go_ret
    exact ⟨⟨_, rfl⟩, HH.out.1.drew, HH.out.2.drew⟩

theorem kmeth_max8 (a : Addr) (w : World) : (method 279 58 (.pointer (some a)) "Max").run Tryz.prog w = .ok (106, .pointer (some a)) w := by kernel_rfl
theorem kmeth_pop8 (a : Addr) (w : World) : (method 279 58 (.pointer (some a)) "Pop").run Tryz.prog w = .ok (107, .pointer (some a)) w := by kernel_rfl
theorem kmeth_len8 (a : Addr) (w : World) : (method 279 58 (.pointer (some a)) "Len").run Tryz.prog w = .ok (104, .pointer (some a)) w := by kernel_rfl
theorem kmeth_keep8 (a : Addr) (w : World) : (method 279 58 (.pointer (some a)) "Keep").run Tryz.prog w = .ok (103, .pointer (some a)) w := by kernel_rfl
theorem kahead_keep (a : Addr) (w : World) : (nilAhead 279 58 (.pointer (some a)) "Keep").run Tryz.prog w = .ok (some false) w := by kernel_rfl
end Go.Proofs.YtmeooadgdagiiaaGreat.K.D

namespace Go.Proofs.YtmeooadgdagiiaaGreat.K
open Go.RowKit Lox Go.Sort
set_option linter.unusedVariables false
attribute [local go_sem] run_store_flt run_store_fn

/-- The last element is dropped. -/
theorem ks_pop {NK CD PT : TypeId} {w : World} {kb hb len cap : Nat} {els : List El} (h : Lox.KS NK CD PT w kb hb len cap els) (h0 : 0 < len) :
    Lox.KS NK CD PT (w.setCell ⟨kb, 0, none⟩ (.slice (some ⟨hb, 0, none⟩) (len - 1) cap)) kb hb (len - 1) cap (els.take (len - 1)) := by
  obtain ⟨vs, sp, b1, b2, hsp, hl, hc, hp, hne⟩ := h
  have hvl : vs.length = els.length := hp.1
  refine ⟨vs.take (len - 1), flat (vs.drop (len - 1)) ++ sp, b1.set 0 _, ?_, ?_, by simp; omega, by omega, hp.take _, hne⟩
  · have h3 := b2.other (a := ⟨kb, 0, none⟩) (.slice (some ⟨hb, 0, none⟩) (len - 1) cap) hne
    rw [← List.append_assoc, ← flat_append, List.take_append_drop]
    exact h3
  · rw [List.length_append, flat_length, List.length_drop]
    omega

end Go.Proofs.YtmeooadgdagiiaaGreat.K

namespace Go.Proofs.YtmeooadgdagiiaaGreat.K
open Go.RowKit Lox Go.Sort
set_option linter.unusedVariables false
attribute [local go_sem] run_store_flt run_store_fn

/-- sort.Reverse. -/
theorem rev_at (T : TypeId) (v : Value) (w : World) : Calls Tryz.prog 37 #[.iface T v] w fun e w' => e = .returned (.iface 120 (.pointer (some ⟨w.heap.size, 0, none⟩))) ∧ w' = w.alloc (.cells #[.iface T v] 122) := by
  go_enter Tryz.func37, Tryz.ntmps37
  go_wp2
  go_ret
  exact ⟨rfl, rfl⟩

theorem Res.perm' {q : TP} {dims : Nat} {ts rest : List XT} {ps ps' : List TP} (h : Res q dims ts rest ps) (hp : ps.Perm ps') : Res q dims ts rest ps' := ⟨h.isp, h.perm.trans hp, h.up, h.far⟩
theorem elsX_length (ts : List XT) : (elsX ts).length = ts.length := by simp [elsX]

end Go.Proofs.YtmeooadgdagiiaaGreat.K

namespace Go.Proofs.YtmeooadgdagiiaaGreat.K.D
open Go.RowKit Lox Go.Sort
set_option linter.unusedVariables false
attribute [local go_sem] run_store_flt run_store_fn

/-- The state of a keeper within a distance. -/
def StD (q : TP) (dims S kb hb H : Nat) (w : World) (ps : List TP) : Prop := ∃ L hb' cap', DKS S w kb hb' L.length cap' L ∧ cap' ≤ maxLen ∧ (hb' = hb ∨ H ≤ hb') ∧ H ≤ w.heap.size ∧ InP q dims S L ps

theorem in_len {q : TP} {dims S : Nat} {L : List El} {ps : List TP} (h : InP q dims S L ps) : 0 < L.length ∧ L.length ≤ ps.length + 1 ∧ at' L 0 = none := by
  obtain ⟨ts, _, h2, h3⟩ := h
  have h4 := h3.length
  have h5 := congrArg List.length h2
  rw [List.length_map] at h4 h5
  exact ⟨h4.1, by omega, h3.top⟩

theorem kpr_d {q : TP} {dims S kb hb H : Nat} (hq : GoodE dims q) (hd : dims ≤ 4) (hS : Lox.Fin S) :
    Kpr 58 (.pointer (some ⟨kb, 0, none⟩)) 103 106 q dims (fun k => k = hb ∨ k = kb ∨ H ≤ k) (StD q dims S kb hb H) where
  findK := fun w => kmeth_keep8 _ w
  findM := fun w => kmeth_max8 _ w
  ahead := fun w => kahead_keep _ w
  enterK := enters_of Tryz.func103 (by kernel_rfl) rfl
  enterM := enters_of Tryz.func106 (by kernel_rfl) rfl
  mod0 := fun w w' ps ⟨L, hb', cap', h1, h2, h3, h4, h5⟩ hm => ⟨L, hb', cap', h1.mod hm (fun h => h) (fun h => h), h2, h3, Nat.le_trans h4 hm.size, h5⟩
  keep := fun w ps p r ⟨L, hb', cap', h1, h2, h3, h4, h5⟩ hn hr => by
    have hl := in_len h5
    refine (kkeep_at w kb hb' L.length cap' r p.v L h1 hl.1 h2 (by omega) hr.1.1 hS hl.2.2).mono ?_
    rintro e w' ⟨hb'', cap'', he, hk, hc, hh, hm⟩
    refine ⟨he, ⟨_, hb'', cap'', hk, hc, ?_, Nat.le_trans h4 hm.size, h5.keep hr⟩, hm.os, hm.tape, hm.output, hm.size, fun k hk hn => hm.block k hk ?_⟩
    · rcases hh with hh | hh
      · rw [hh]; exact h3
      · exact .inr (Nat.le_trans h4 hh)
    · rintro (e | e)
      · rcases h3 with h3 | h3
        · exact hn (.inl (by rw [e, h3]))
        · exact hn (.inr (.inr (by rw [e]; exact h3)))
      · exact hn (.inr (.inl e))
  max := fun w ps ⟨L, hb', cap', h1, h2, h3, h4, h5⟩ => by
    have hl := in_len h5
    have hbb := h1.bds
    refine (kmax_at w kb _ L.length cap' L h1 hl.1).mono ?_
    rintro e w' ⟨⟨v, b, he, hx⟩, hm⟩
    have h1' := h1.mod hm (fun h => h) (fun h => h)
    refine ⟨v, b, he, ⟨L, hb', cap', h1', h2, h3, Nat.le_trans h4 hm.size, h5⟩, hm, fun cc c es hc hg hes => ⟨L, hb', cap', h1', h2, h3, Nat.le_trans h4 hm.size, ?_⟩⟩
    rw [hl.2.2] at hx
    obtain ⟨_, rfl⟩ := hx
    rw [ord_le hc.1.1 hS] at hg
    have := of_decide_eq_false hg
    exact h5.skip hq hd hc (by omega) hes

/-- What NearestSet tells of a keeper within a distance. -/
def NsTold (S : Nat) (q : TP) (dims kb hb cap : Nat) (mt : MT) (w : World) (e : Ending) (w' : World) : Prop :=
  e = .returned (.tuple #[]) ∧ ∃ ts rest hb' cap', Res q dims ts rest mt.pts ∧ (∀ t ∈ ts, fk t.1.1 ≤ fk S) ∧ (∀ t ∈ rest, fk S < fk t.1.1) ∧ DKS S w' kb hb' ts.length cap' (elsX ts) ∧ cap' ≤ maxLen ∧ Mod (fun k => k = hb ∨ k = kb ∨ w.heap.size ≤ k) w w'

set_option maxRecDepth 100000 in
set_option maxHeartbeats 4000000 in
/-- Tree.NearestSet, over a keeper that has just been made. -/
theorem nset_at (dims tb kb hb cap S : Nat) (n : Int) (v : Option Addr) (hdm : 0 < dims ∧ dims ≤ 4) (q : TP) (hqg : q.Gr) (hqx : q.xs.length = dims) (mt : MT) (h0 : mt ≠ .nil) (w : World) (ht : Blk w tb 56 [.pointer v, .int .i64 n]) (hI : mt.In w (.pointer v)) (hq : q.Ok w dims) (hP : PtsOk (fun k => k = hb ∨ k = kb ∨ w.heap.size ≤ k) w dims mt.pts) (hqf : Far (fun k => k = hb ∨ k = kb ∨ w.heap.size ≤ k) q) (hG : ∀ k ∈ mt.gs, ¬ (fun k => k = hb ∨ k = kb ∨ w.heap.size ≤ k) k)
    (hO : mt.T.Ord leB) (hE : mt.T.Each (fun _ d => d < dims)) (hK : DKS S w kb hb 1 cap [none]) (hN : mt.pts.length ≤ 60000) (hcm1 : cap ≤ maxLen) (hS : Lox.Fin S) :
    Calls Tryz.prog 24 #[.pointer (some ⟨tb, 0, none⟩), KP kb, .iface 50 (.slice q.A dims q.c)] w (NsTold S q dims kb hb cap mt w) := by
  have hne : ∃ vv, v = some vv := by
    cases mt with
    | nil => exact absurd rfl h0
    | node g p d bx l r => obtain ⟨hv, _⟩ := hI; cases hv; exact ⟨_, rfl⟩
  obtain ⟨vv, rfl⟩ := hne
  have c0 : w.cell? ⟨tb, 0, none⟩ = some (.pointer (some vv)) := ht.at (i := 0) rfl
  have SRC : Hid (Calls Tryz.prog 35 #[.pointer (some vv), .iface 50 (.slice q.A dims q.c), KP kb] w (SsTold (fun k => k = hb ∨ k = kb ∨ w.heap.size ≤ k) (StD q dims S kb hb w.heap.size) [] mt w)) :=
    sset_at (kpr_d (kb := kb) (hb := hb) (H := w.heap.size) ⟨hqg, hqx⟩ hdm.2 hS) hdm hqg hqf mt w _ [] hI hG hq hP hO hE (⟨[none], hb, cap, hK, hcm1, .inl rfl, Nat.le_refl _, InP.start⟩) (by simp; omega)
  have m1 := kmeth_len8
  have m2 := kmeth_max8
  have m3 := kmeth_pop8
  have m5 := run_cmp
  have HW := Lib.hid (And.intro hP hN)
  clear ht hI hq hP hG hO hE hK hN h0
  go_enter Tryz.func24, Tryz.ntmps24
  go_upto_region 2 with (go_at_call 35; refine SRC.out.mono ?_; rintro _ w1 ⟨rfl, ps', hp', hst, hm1⟩; have HST := Lib.hid (And.intro hp' (And.intro hst hm1)); clear hp' hst hm1)
  obtain ⟨L, hb', cap', hkL, hcm, hhb, hhs, hkp⟩ := HST.out.2.1
  rw [List.nil_append] at hkp
  have HL := Lib.hid (And.intro hkL (And.intro hkp.one (And.intro hkp HST.out.2.2)))
  clear hkL hkp
  have hlen := HL.out.1.bds
  have hL0 : 0 < L.length := (in_len HL.out.2.2.1).1
  have hLn : L.length < 65536 := by have h1 := HW.out.2; have h2 := HST.out.1.length_eq; have h3 := (in_len HL.out.2.2.1).2.1; omega
  have hL0' : ((L.length : Int) != 0) = true := bne_iff_ne.2 (by omega)
  have LEN : Hid (∀ w2 : World, Mod (fun _ => False) w1 w2 → Calls Tryz.prog 104 #[.pointer (some ⟨kb, 0, none⟩)] w2 fun e w' => e = .returned (.int .i64 L.length) ∧ w' = w2) := fun w2 hm => (klen_at w2 kb hb' L.length cap' L (HL.out.1.mod hm (fun h => h) (fun h => h))).mono fun e w' ⟨h1, h2⟩ => ⟨h1, h2.symm⟩
  have MAX : Hid (∀ w2 : World, Mod (fun _ => False) w1 w2 → Calls Tryz.prog 106 #[.pointer (some ⟨kb, 0, none⟩)] w2 fun e w' => (∃ v b, e = .returned (.agg #[v, .float .f64 b]) ∧ ElAtD S 50 v b (at' L 0)) ∧ Mod (fun _ => False) w1 w') := fun w2 hm => (kmax_at w2 kb hb' L.length cap' L (HL.out.1.mod hm (fun h => h) (fun h => h)) hL0).mono fun e w' ⟨h1, h2⟩ => ⟨h1, hm.trans h2⟩
  have SRT : Hid (∀ w2 : World, Mod (fun _ => False) w1 w2 → Calls Tryz.prog 36 #[.iface 120 (.pointer (some ⟨w2.heap.size, 0, none⟩))] (w2.alloc (.cells #[KP kb] 122)) fun e w' => e = .returned (.tuple #[]) ∧ ∃ els', Hid (els'.Perm L ∧ UpE els' ∧ DKS S w' kb hb' L.length cap' els' ∧ Mod (fun k => k = hb ∨ k = kb ∨ w.heap.size ≤ k) w w')) := by
    intro w2 hm
    have hm3 := hm.alloc (.cells #[KP kb] 122)
    have hk := HL.out.1.mod hm3 (fun h => h) (fun h => h)
    refine (ksort_at S w2.heap.size kb hb' L.length cap' L _ hk (Blk.new' w2 #[KP kb] 122) HL.out.2.1 hLn (by have := hm.size; omega)).mono ?_
    rintro e w' ⟨rfl, els', h1, h2, h3, h4⟩
    exact ⟨rfl, els', h1, h2, h3, (HL.out.2.2.2.trans (none_S hm3)).trans ⟨h4.os, h4.tape, h4.output, h4.size, fun k hk hn => h4.block k hk (fun e => hn (by rw [e]; rcases hhb with h | h; exact .inl h; exact .inr (.inr h)))⟩⟩
  have REV : Hid (∀ w2 : World, Calls Tryz.prog 37 #[KP kb] w2 fun e w' => e = .returned (.iface 120 (.pointer (some ⟨w2.heap.size, 0, none⟩))) ∧ w' = w2.alloc (.cells #[KP kb] 122)) := fun w2 => rev_at 58 (.pointer (some ⟨kb, 0, none⟩)) w2
  cases htop : at' L 0 with
  | none =>
    have HT := Lib.hid htop
    clear htop
    go_upto_if 31 with (first
      | (go_at_call 104; refine (LEN.out _ (by first | exact Mod.refl _ _)).mono ?_; rintro _ _ ⟨rfl, rfl⟩)
      | (go_at_call 106; refine (MAX.out _ (by first | exact Mod.refl _ _)).mono ?_; rintro _ w2 ⟨⟨v5, b5, rfl, he5⟩, hm2⟩; rw [HT.out] at he5; obtain ⟨rfl, rfl⟩ := he5; have HM2 := Lib.hid hm2; clear hm2)
      | (go_at_call 37; refine (REV.out _).mono ?_; rintro _ _ ⟨rfl, rfl⟩)
      | (go_at_call 36; refine (SRT.out _ HM2.out).mono ?_; rintro _ w3 ⟨rfl, els', H3⟩))
    go_wp2_with (go_at_call 107; refine (kpopm_at _ kb hb' L.length cap' els' H3.out.2.2.1 hL0 (by omega)).mono ?_; rintro _ w4 ⟨⟨vp, rfl⟩, hk4, hm4⟩; have H4 := Lib.hid (And.intro hk4 hm4); clear hk4 hm4)
    go_end0
    obtain ⟨ts, rest, hres, hin, hout, _, hel⟩ := HL.out.2.2.1.fin H3.out.1 H3.out.2.1
    have hp := HST.out.1
    have hll : L.length = ts.length + 1 := by have := H3.out.1.length_eq; rw [hel, List.length_append, elsX_length] at this; simpa using this.symm
    refine ⟨rfl, ts, rest, hb', cap', hres.perm' hp, hin, hout, ?_, hcm, ?_⟩
    · have := H4.out.1
      rw [hel, hll, Nat.add_sub_cancel, List.take_left' (elsX_length ts)] at this
      exact this
    · exact H3.out.2.2.2.trans ⟨H4.out.2.os, H4.out.2.tape, H4.out.2.output, H4.out.2.size, fun k hk hn => H4.out.2.block k hk (fun e => hn (.inr (.inl e)))⟩
  | some m =>
    exact absurd htop (by rw [(in_len HL.out.2.2.1).2.2]; simp)
end Go.Proofs.YtmeooadgdagiiaaGreat.K.D
