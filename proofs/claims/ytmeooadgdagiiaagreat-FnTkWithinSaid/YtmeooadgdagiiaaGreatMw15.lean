/- Steps of a proof, one behind another: The walk of SquaresTo. How many of the numbers in order are within a distance, in plain Lean; the walk of tUpTo. The walk of the making of a keeper within a distance. The walk of KWithin (printed by wip/gen_kset.py). The walk of KWithin over the tree of no points (printed by wip/gen_kset0.py). The walk of FnTkRoot: it answers true, and what came in is as it was. Conditions: none on the numbers. The walk of FnTkNearest: it answers true, and what came in is as it was. Conditions: none on the numbers. Conditions: as each theorem says. -/
import Derived.Test.YtmeooadgdagiiaaGreatMw14
import Derived.Deep.QuietTactic

namespace Go.Proofs.YtmeooadgdagiiaaGreat
open Go.RowKit Lox
set_option linter.unusedVariables false
attribute [local go_sem] run_store_flt run_store_fn

/-- Numbers that have been laid in order so far, in a row of their own. -/
structure SQ (w w' : World) (v : Value) (k : Nat) (ns : List Int) (ws : List Nat) : Prop where
  own : w'.ownsRow w.heap.size 25 1 v k (flts ws)
  up : Up ws
  gn : ∀ y ∈ ws, Gn y
  perm : (ws.map zv).Perm ns
  mod : Mod (fun _ => False) w w'

theorem SQ.step {w w' w1 w2 : World} {v : Value} {k r : Nat} {ns : List Int} {n : Int} {ws : List Nat} {e : Ending} (h : SQ w w' v k ns ws) (h1 : Mod (fun _ => False) w' w1) (hr : Gd 0 r n) (hw : WithTold w.heap.size k v ws r w1 e w2) :
    ∃ (g cap : Nat) (ws' : List Nat), e = .returned (.slice (some ⟨g, 0, none⟩) (k + 1) cap) ∧ SQ w w2 (.slice (some ⟨g, 0, none⟩) (k + 1) cap) (k + 1) (ns ++ [n]) ws' := by
  obtain ⟨g, cap, i, rfl, a1, a2, a3, a4, a5, a6⟩ := hw
  have hl : ws.length = k := by have := h.own.1; simpa [flts] using this
  have hp := insAt_perm ws r i
  refine ⟨g, cap, insAt ws r i, rfl, a1, insAt_up h.up (by omega) a3 a4, fun y hy => ?_, ?_, (h.mod.trans h1).trans' a5 fun j hj e => ?_⟩
  · rcases List.mem_cons.1 (hp.mem_iff.1 hy) with rfl | hy
    · exact ⟨n, hr⟩
    · exact h.gn y hy
  · refine (hp.map zv).trans ?_
    rw [List.map_cons, zv_eq hr]
    exact (List.Perm.cons n h.perm).trans (List.perm_append_comm (l₁ := [n]) (l₂ := ns))
  · have := (own_block h.own e).1
    omega

/-- What SquaresTo tells. -/
def SqTold (n : Nat) (ns : List Int) (w : World) (e : Ending) (w' : World) : Prop :=
  ∃ (V : Option Addr) (c : Nat) (ws : List Nat), e = .returned (.slice V n c) ∧ Sl w' V n 1 (flts ws) ∧ n ≤ c ∧ c ≤ 9223372036854775807 ∧ Up ws ∧ (∀ y ∈ ws, Gn y) ∧ (ws.map zv).Perm ns ∧ Mod (fun _ => False) w w'

theorem SQ.told {w w' : World} {v : Value} {n : Nat} {ns : List Int} {ws : List Nat} (h : SQ w w' v n ns ws) : SqTold n ns w (.returned v) w' := by
  rcases h.own.2 with ⟨rfl, h0⟩ | ⟨g, cap, cur, rfl, hB, hg, hc, hcm, hsz, ht⟩
  · subst h0
    exact ⟨none, 0, ws, rfl, ⟨by have := h.own.1; simpa using this, fun h => by omega⟩, Nat.le_refl _, by omega, h.up, h.gn, h.perm, h.mod⟩
  · refine ⟨_, _, ws, rfl, ⟨h.own.1, fun _ => ⟨g, 0, rfl, fun j u hu => ?_⟩⟩, hc, by unfold maxLen at hcm; exact hcm, h.up, h.gn, h.perm, h.mod⟩
    rw [Nat.zero_add]
    exact (own_at h.own hu).1

set_option maxHeartbeats 4000000 in
theorem squares_at (A : Option Addr) (n c dims : Nat) (ps : List TP) (q : TP) (w : World) (hp : PRows w A n ps dims) (hg : ∀ p ∈ ps, p.Gr) (hq : q.Ok w dims) (gq : q.Gr) (hn : n ≤ 2147483647) (hdm : dims ≤ 4) :
    Calls Tryz.prog 11 #[.slice A n c, .slice q.A dims q.c] w (SqTold n (ps.map fun p => sqx p.xs q.xs dims) w) := by
  have HH := Lib.hid (And.intro hp (And.intro hg (And.intro hq gq)))
  clear hp hg hq gq
  go_enter Tryz.func11, Tryz.ntmps11
  go_wp2
  go_loopw [5, 10] (fun v i w' => ∃ (k : Nat) (ws : List Nat), k ≤ n ∧ i = .int .i64 k ∧ Hid (SQ w w' v k ((ps.take k).map fun p => sqx p.xs q.xs dims) ws)) (fun _ i _ => n - (intOf i).toNat)
  case atStart => exact ⟨0, [], Nat.zero_le _, rfl, World.ownsRow_nil _ _ _ _, List.Pairwise.nil, fun y hy => (by cases hy), List.Perm.refl _, Mod.refl _ _⟩
  case round =>
    obtain ⟨k, ws, hk, rfl, HR⟩ := hrel
    by_cases hlt : k < n
    · have hpi := HH.out.1.mod HR.out.mod
      obtain ⟨b, o, v0, e1, e2, c1⟩ := hpi.1.at1 hlt
      have hk2 : k < ps.length := by have := hpi.len; omega
      obtain ⟨p, ep⟩ : ∃ p, p = ps[k] := ⟨_, rfl⟩
      have hpm : p ∈ ps := by rw [ep]; exact List.getElem_mem hk2
      have hTK : ps.take (k + 1) = ps.take k ++ [p] := by rw [List.take_succ_eq_append_getElem hk2, ep]
      have e3 : (ps.map TP.v)[k]? = some p.v := by rw [ep]; simp [hk2]
      rw [e3] at e2
      cases e2
      obtain ⟨hrd, hpl⟩ := hpi.2 p hpm
      have c2 : wr.cell? ⟨b, o + k, none⟩ = some (.slice p.A dims p.c) := by rw [c1, ← hpl]; rfl
      have HS := Lib.hid (And.intro (show p.Ok wr dims from ⟨hpl, hrd.1⟩) (And.intro (HH.out.2.2.1.mod0 HR.out.mod) (And.intro (HH.out.2.1 p hpm) hTK)))
      subst e1
      clear hpi ep hpm hTK e3 c1 hrd hpl hk2
      have i0' : (0 : Int) ≤ k := by omega
      have i1' : (k : Int) < n := by omega
      go_wp2_with (first
        | (go_at_call 26; refine (square_at wr dims p q HS.out.1 HS.out.2.1 HS.out.2.2.1 HH.out.2.2.2 hdm).mono ?_; rintro _ w1 ⟨⟨r, rfl, hr⟩, m1, rfl⟩; have H1 := Lib.hid hr; clear hr)
        | (go_at_call 28; refine (with_at w.heap.size k _ ws r _ (HR.out.own.kept (Mod.grownBy ((Mod.refl _ wr).drewN m1)) (Decidable.em _)) (by omega) (HR.out.mod.drewN m1).size HR.out.gn ⟨_, H1.out⟩).mono ?_; rintro _ w2 hw; obtain ⟨g, cap, ws', rfl, hs⟩ := HR.out.step ((Mod.refl _ wr).drewN m1) H1.out hw; have H2 := Lib.hid hs; clear hs hw))
      go_roundw
      case rel =>
        refine ⟨k + 1, ws', by omega, by go_num, ?_⟩
        have h := H2.out
        rw [HS.out.2.2.2, List.map_append]
        exact h
      case measure => simp [intOf]; omega
    · obtain rfl : k = n := by omega
      go_wp2
      go_ret
      have h := HR.out
      rw [List.take_of_length_le (by have := HH.out.1.len; omega)] at h
      exact h.told
end Go.Proofs.YtmeooadgdagiiaaGreat

namespace Go.Proofs.YtmeooadgdagiiaaGreat.K
open Go.RowKit Lox Go.Sort
set_option linter.unusedVariables false

/-- Those within a distance are the first of the numbers in order. -/
theorem upto_len {dims S : Nat} {qx : List Nat} {pts : List (List Nat)} {fs : List (TP × Nat)} {rest : List (List Nat)} {ws : List Nat} (h : FRes dims qx pts fs rest) (hin : ∀ y ∈ fs, fk y.2 ≤ fk S) (hout : ∀ b ∈ rest, ∀ r, Gd 0 r (sqx qx b dims) → fk S < fk r)
    (hup : Up ws) (hgn : ∀ y ∈ ws, Gn y) (hpm : (ws.map zv).Perm (pts.map fun y => sqx qx y dims)) :
    fs.length ≤ ws.length ∧ (∀ (i : Nat) (x : TP × Nat) (y : Nat), fs[i]? = some x → ws[i]? = some y → Gd 0 y (sqx qx x.1.xs dims)) ∧ (∀ (i y : Nat), i < fs.length → ws[i]? = some y → fk y ≤ fk S) ∧ (∀ y : Nat, ws[fs.length]? = some y → fk S < fk y) := by
  have hkl : (keysF dims qx fs).length = fs.length := List.length_map ..
  have hlen : fs.length ≤ ws.length := by
    have h1 := h.perm.length_eq
    have h2 := hpm.length_eq
    rw [List.length_append, List.length_map] at h1
    rw [List.length_map, List.length_map] at h2
    omega
  have hup' : (ws.map zv).Pairwise (· ≤ ·) := List.pairwise_map.2 hup
  have ht : keysF dims qx fs = (ws.map zv).take fs.length := by
    have := up_take (b := ws.map zv) (s := []) h.up h.far' hup' (fun x _ y hy => by cases hy) h.keys (by rw [List.append_nil]; exact hpm) (by show (keysF dims qx fs).length ≤ _; rw [hkl, List.length_map]; exact hlen)
    change keysF dims qx fs = (ws.map zv).take (keysF dims qx fs).length at this
    rw [hkl] at this
    exact this
  have hd : ((ws.map zv).drop fs.length).Perm (rest.map fun y => sqx qx y dims) := by
    have h1 : ((ws.map zv).take fs.length ++ (ws.map zv).drop fs.length).Perm (keysF dims qx fs ++ rest.map fun y => sqx qx y dims) := by
      rw [List.take_append_drop]
      exact hpm.trans h.keys.symm
    rw [← ht] at h1
    exact (List.perm_append_left_iff _).1 h1
  have hgd : ∀ (i : Nat) (x : TP × Nat) (y : Nat), fs[i]? = some x → ws[i]? = some y → Gd 0 y (sqx qx x.1.xs dims) := by
    intro i x y hx hy
    have hi : i < fs.length := (List.getElem?_eq_some_iff.1 hx).1
    have h1 := congrArg (fun l : List Int => l[i]?) ht
    simp only [keysF, List.getElem?_map, hx, Option.map_some, List.getElem?_take_of_lt hi, hy] at h1
    have h2 : sqx qx x.1.xs dims = zv y := by simpa using h1
    rw [h2]
    exact zv_gd (hgn y (List.mem_of_getElem? hy))
  refine ⟨hlen, hgd, fun i y hi hy => ?_, fun y hy => ?_⟩
  · have hx : fs[i]? = some fs[i] := List.getElem?_eq_getElem hi
    have h1 := hgd i _ y hx hy
    have h2 := (h.dv _ (List.mem_of_getElem? hx)).1
    rw [fk_same h1 h2]
    exact hin _ (List.mem_of_getElem? hx)
  · have hm : zv y ∈ (ws.map zv).drop fs.length := by
      have : ((ws.map zv).drop fs.length)[0]? = some (zv y) := by rw [List.getElem?_drop, Nat.add_zero, List.getElem?_map, hy]; rfl
      exact List.mem_of_getElem? this
    obtain ⟨b, hb, e⟩ := List.mem_map.1 (hd.mem_iff.1 hm)
    refine hout b hb y ?_
    show Gd 0 y (sqx qx b dims)
    have e' : sqx qx b dims = zv y := e
    rw [e']
    exact zv_gd (hgn y (List.mem_of_getElem? hy))
end Go.Proofs.YtmeooadgdagiiaaGreat.K
namespace Go.Proofs.YtmeooadgdagiiaaGreat.K.D
open Go.RowKit Lox Go.Sort
set_option linter.unusedVariables false
attribute [local go_sem] run_store_flt run_store_fn

set_option maxRecDepth 100000 in
set_option maxHeartbeats 4000000 in
theorem upTo_at (V : Option Addr) (n c L S : Nat) (ws : List Nat) (w : World) (hV : Sl w V n 1 (flts ws)) (hc : n ≤ c ∧ c ≤ 9223372036854775807) (hn : n ≤ 2147483647) (hL : L ≤ n) (hS : Lox.Fin S) (hf : ∀ y ∈ ws, Lox.Fin y) (h1 : ∀ i y, i < L → ws[i]? = some y → fk y ≤ fk S) (h2 : ∀ y, ws[L]? = some y → fk S < fk y) :
    Calls Tryz.prog 10 #[.slice V n c, .float .f64 S] w fun e w' => (∃ c', e = .returned (.slice V L c')) ∧ Mod (fun _ => False) w w' := by
  have hwl : ws.length = n := by have := hV.1; simpa [flts] using this
  have HH := Lib.hid (And.intro hV (And.intro hf (And.intro h1 (And.intro h2 hwl))))
  clear hV hf h1 h2 hwl
  go_enter Tryz.func10, Tryz.ntmps10
  go_wp2_with fail
  go_loopw [5] (fun i w' => ∃ k : Nat, k ≤ L ∧ i = .int .i64 k ∧ Hid (Mod (fun _ => False) w w')) (fun i _ => n - (intOf i).toNat)
  case atStart => exact ⟨0, Nat.zero_le _, rfl, Mod.refl _ _⟩
  case round =>
    obtain ⟨k, hk, rfl, HR⟩ := hrel
    by_cases hlt : k < n
    · have hk2 : k < ws.length := by rw [HH.out.2.2.2.2]; exact hlt
      obtain ⟨b, o, v0, e1, e2, c1⟩ := (HH.out.1.mod HR.out).at1 hlt
      rw [flts_getD hk2] at e2
      cases e2
      have hy : ws[k]? = some (ws.getD k 0) := by simp [hk2]
      generalize ws.getD k 0 = y at hy c1
      have hq := ord_le (HH.out.2.1 y (List.mem_of_getElem? hy)) hS
      subst e1
      have i0' : (0 : Int) ≤ k := by omega
      have i1' : (k : Int) < n := by omega
      by_cases hkl : k < L
      · rw [decide_eq_true (HH.out.2.2.1 k y hkl hy)] at hq
        clear hy hk2
        go_wp2_with fail
        go_roundw
        case rel => exact ⟨k + 1, by omega, by go_num, HR.out⟩
        case measure => simp [intOf]; omega
      · obtain rfl : k = L := by omega
        rw [decide_eq_false (by have := HH.out.2.2.2.1 y hy; omega)] at hq
        clear hy hk2
        go_wp2_with fail
        go_ret
        exact ⟨⟨_, rfl⟩, HR.out⟩
    · obtain rfl : k = n := by omega
      obtain rfl : L = k := by omega
      cases V with
      | none =>
        go_wp2_with fail
        go_ret
        exact ⟨⟨_, rfl⟩, HR.out⟩
      | some a =>
        obtain ⟨b, o, v⟩ := a
        go_wp2_with fail
        go_ret
        exact ⟨⟨_, rfl⟩, HR.out⟩
end Go.Proofs.YtmeooadgdagiiaaGreat.K.D

namespace Go.Proofs.YtmeooadgdagiiaaGreat.K.D
open Go.RowKit Lox
set_option linter.unusedVariables false
attribute [local go_sem] run_store_flt run_store_fn

set_option maxRecDepth 100000 in
set_option maxHeartbeats 4000000 in
theorem knew_at (w : World) (S : Nat) :
    Calls Tryz.prog 22 #[.float .f64 S] w fun e w' => e = .returned (.pointer (some ⟨w.heap.size + 1, 0, none⟩)) ∧ DKS S w' (w.heap.size + 1) w.heap.size 1 1 [none] ∧ Mod (fun _ => False) w w' := by
  obtain ⟨W, eW⟩ : ∃ W, W = (w.alloc (.cells #[.nilIface, .float .f64 S] 95)).alloc (.cells #[.slice (some ⟨w.heap.size, 0, none⟩) 1 1] 66) := ⟨_, rfl⟩
  have bH : Blk W w.heap.size 95 [.nilIface, .float .f64 S] := by
    rw [eW]
    exact (Blk.new' w #[.nilIface, .float .f64 S] 95).alloc _
  have bK : Blk W (w.heap.size + 1) 66 [.slice (some ⟨w.heap.size, 0, none⟩) 1 1] := by
    rw [eW]
    have := Blk.new' (w.alloc (.cells #[.nilIface, .float .f64 S] 95)) #[.slice (some ⟨w.heap.size, 0, none⟩) 1 1] 66
    rw [World.size_alloc] at this
    exact this
  have hm : Mod (fun _ => False) w W := by rw [eW]; exact ((Mod.refl _ _).alloc _).alloc _
  have HK := Lib.hid (And.intro bH (And.intro bK hm))
  have HE := Lib.hid eW
  clear bH bK hm eW
  go_enter Tryz.func22, Tryz.ntmps22
  go_wp2_with fail
  go_ret
  try rw [← HE.out]
  refine ⟨rfl, ⟨[(.nilIface, S)], [], HK.out.2.1, HK.out.1, rfl, rfl, Nat.le_refl _, ⟨rfl, fun i v b hv => ?_⟩, by omega⟩, HK.out.2.2⟩
  cases i with
  | zero => simp at hv; obtain ⟨rfl, rfl⟩ := hv; exact ⟨rfl, rfl⟩
  | succ i => simp at hv
end Go.Proofs.YtmeooadgdagiiaaGreat.K.D

namespace Go.Proofs.YtmeooadgdagiiaaGreat.K.D
open Go.RowKit Lox Go.Sort
set_option linter.unusedVariables false
attribute [local go_sem] run_store_flt run_store_fn
attribute [local go_sem ↓] Go.wp_at_zero Go.wp_at_succ

theorem catch_idle (p q : Addr) (w : World) :
    CallsD Tryz.prog 21 #[.pointer (some p), .pointer (some q)] .returning w fun e u' w' => e = .returned (.tuple #[]) ∧ u' = .returning ∧ w' = w := by
  refine callsD_of_wpS Tryz.func21 rfl fun c₀ cs hu => ?_
  apply wpS_seq
  apply wpS_region
  simp [wpOpsS, go_sem, recoverD, hu, Tryz.ntmps21, Exit.thenS]
  refine wpS_cond (t := false) (by simp [Act.eval, Array.replicate]) ?_
  simp only [Bool.false_eq_true, if_false]
  refine wpS_of_wp (wp_skip ?_)
  cases c₀
  simp_all [bodyPostS, results, Tryz.results21]

/-- Which blocks turn. -/
abbrev Sx (H : Nat) (w6 : World) : Nat → Prop := fun k => k = H + 2 ∨ k = H + 3 ∨ w6.heap.size ≤ k

theorem sx_high {H k : Nat} {w6 : World} (h6 : H + 4 ≤ w6.heap.size) (h : Sx H w6 k) : H + 2 ≤ k := by
  rcases h with h | h | h <;> omega

/-- The points of the tree, in the world in which it is searched. -/
theorem pts_ok {H n dims tb : Nat} {v : Option Addr} {mt mt' : MT} {w4 w5 w6 : World} (hdm : 0 < dims) (z4 : H + 4 ≤ w4.heap.size) (t5 : ∀ p ∈ mt'.pts, TP.OkF w4.heap.size w5 dims p) (t3 : mt'.T.map TP.xs = mt.T.map TP.xs) (f2 : Mod (fun _ => False) w5 w6) (hP : ∀ p ∈ mt.pts, p.xs.length = dims ∧ p.Gr) : PtsOk (Sx H w6) w6 dims mt'.pts := by
  intro p hp
  obtain ⟨h1, h2⟩ := t5 p hp
  refine ⟨h1.mod0 f2, same_gr t3 (fun p hp => (hP p hp).2) p hp, fun b o e hs => ?_⟩
  have h3 := h2 b o e
  have h4 : b < w5.heap.size := (h1.2.far (by omega)) (by rw [h1.1]; exact hdm) b o e
  have h5 := f2.size
  rcases hs with hs | hs | hs <;> omega

theorem set_call {H n dims tb S : Nat} {nn : Int} {v Q2 : Option Addr} {cq2 : Nat} {qx : List Nat} {mt mt' : MT} {w4 w5 w6 : World} (hSf : Lox.Fin S) (hdm : 0 < dims ∧ dims ≤ 4) (z4 : H + 4 ≤ w4.heap.size) (k1 : DKS S w4 (H + 3) (H + 2) 1 1 [none])
    (t1 : Blk w5 tb 56 [.pointer v, .int .i64 nn]) (t2 : mt'.In w5 (.pointer v)) (t3 : mt'.T.map TP.xs = mt.T.map TP.xs) (t4 : ∀ g ∈ mt'.gs, w4.heap.size ≤ g) (t5 : ∀ p ∈ mt'.pts, TP.OkF w4.heap.size w5 dims p) (t6 : Mod (fun _ => False) w4 w5)
    (f1 : Sl w6 Q2 dims 1 (flts qx)) (f2 : Mod (fun _ => False) w5 w6) (f3 : ∀ b o, Q2 = some ⟨b, o, none⟩ → w5.heap.size ≤ b) (hqg : ∀ x ∈ qx, ∃ n, Wh x n) (hP : ∀ p ∈ mt.pts, p.xs.length = dims ∧ p.Gr) (ho : mt.T.Ord leB) (he : mt.T.Each (fun _ d => d < dims)) (h0 : mt ≠ .nil) (hN : mt.pts.length ≤ 60000) :
    Calls Tryz.prog 24 #[.pointer (some ⟨tb, 0, none⟩), KP (H + 3), .iface 50 (.slice Q2 dims cq2)] w6 (NsTold S ⟨Q2, cq2, qx⟩ dims (H + 3) (H + 2) 1 mt' w6) := by
  have hql : qx.length = dims := by have := f1.1; simpa [flts] using this
  have h5 := t6.size
  have h6 := f2.size
  refine nset_at dims tb (H + 3) (H + 2) 1 S nn v hdm ⟨Q2, cq2, qx⟩ (TP.gr_of hqg) hql mt' (same_nil t3 h0) w6 (t1.mod f2 (fun h => h)) (t2.mod f2 (fun _ _ h => h)) ⟨hql, by show Sl w6 Q2 qx.length 1 _; rw [hql]; exact f1⟩ (pts_ok (n := n) (tb := tb) (v := v) hdm.1 z4 t5 t3 f2 hP) (fun b o e hs => ?_) (fun k hk hs => ?_) (same_ord t3 ho) (same_each t3 he) ((k1.mod t6 (fun h => h) (fun h => h)).mod f2 (fun h => h) (fun h => h)) (by have := congrArg List.length (same_pts t3); rw [List.length_map, List.length_map] at this; omega) (by unfold maxLen; omega) hSf
  · have h3 := f3 b o e
    have h4 : b < w6.heap.size := (f1.far (by omega)) hdm.1 b o e
    rcases hs with hs | hs | hs <;> omega
  · have h3 := t4 k hk
    have h4 := t2.lt k hk
    rcases hs with hs | hs | hs <;> omega

/-- What KWithin tells. -/
def KsTold (S dims : Nat) (qx : List Nat) (pts : List (List Nat)) (w : World) (e : Ending) (w' : World) : Prop :=
  ∃ (F : Option Addr) (c N : Nat) (fs : List (TP × Nat)) (rest : List (List Nat)), e = .returned (.tuple #[.slice F N c, .bool true]) ∧ FRows w' F N fs ∧ (∀ x ∈ fs, x.1.Ok w' dims) ∧ FRes dims qx pts fs rest ∧ ((∀ x ∈ fs, fk x.2 ≤ fk S) ∧ (∀ b ∈ rest, ∀ r, Gd 0 r (sqx qx b dims) → fk S < fk r)) ∧ Mod (fun _ => False) w w'

set_option maxRecDepth 100000 in
set_option maxHeartbeats 8000000 in
theorem kset_at (A Q : Option Addr) (c n cq dims B S : Nat) (qx : List Nat) (rs : List KR) (mt : MT) (w : World) (hdm : 0 < dims ∧ dims ≤ 4) (hn : n = rs.length) (hbx : ∀ x ∈ rs, x.mn.xs = [] ∨ (x.mn.xs.length = dims ∧ x.mx.xs.length = dims)) (h0 : mt ≠ .nil) (hK : KS B w dims (.slice A n c) rs) (hS : Seg rs mt 0)
    (hq : Sl w Q dims 1 (flts qx)) (hqg : ∀ x ∈ qx, ∃ n, Wh x n) (hP : ∀ p ∈ mt.pts, p.xs.length = dims ∧ p.Gr) (ho : mt.T.Ord leB) (he : mt.T.Each (fun _ d => d < dims)) (hN : mt.pts.length ≤ 60000) (hSf : Lox.Fin S) :
    Calls Tryz.prog 8 #[.slice A n c, .slice Q dims cq, .float .f64 S] w (KsTold S dims qx (mt.pts.map TP.xs) w) := by
  have hmf : ∀ (fn : Fn) (first cap : Array Value) (w : World), (Instr.makeFunc fn first cap).run Tryz.prog w = .ok (.func fn first cap) w := fun _ _ _ _ => rfl
  obtain ⟨H, hH⟩ : ∃ H, w.heap.size = H := ⟨_, rfl⟩
  obtain ⟨W3, eW3, z3, m3, q0, q1⟩ := init_ks w H hH
  have hqxl : qx.length = dims := by have := hq.1; simpa [flts] using this
  have KT : Hid (∀ w4, Mod (fun _ => False) W3 w4 → Calls Tryz.prog 23 #[.slice A n c, .int .i64 0] w4 (TrMadeF dims n mt w4)) := fun w4 hm => ktreeF_at A c n dims B rs hdm hn hbx mt h0 w4 (hK.mod (m3.trans hm)) hS
  have NK : Hid (Calls Tryz.prog 22 #[.float .f64 S] W3 fun e w' => e = .returned (.pointer (some ⟨H + 3, 0, none⟩)) ∧ DKS S w' (H + 3) (H + 2) 1 1 [none] ∧ Mod (fun _ => False) W3 w') := by
    have := knew_at W3 S
    rw [z3] at this
    exact this
  have H3 : Hid (W3.heap.size = H + 2 ∧ Mod (fun _ => False) w W3 ∧ Blk W3 H 32 [.slice none 0 0] ∧ Blk W3 (H + 1) 4 [.bool false]) := ⟨z3, m3, q0, q1⟩
  have HEW := Lib.hid eW3
  have HP := Lib.hid (And.intro hq (And.intro hqg (And.intro hP (And.intro ho (And.intro he (And.intro h0 (And.intro hqxl hN)))))))
  clear hK hS hn hbx h0 hq hqg hP ho he z3 m3 q0 q1 eW3 hqxl hN
  go_enter_defers Tryz.func8, Tryz.ntmps8
  go_upto_region 4 with (first
    | (go_at_call 22; rw [← HEW.out]; refine NK.out.mono ?_; rintro _ w4 ⟨rfl, k1, k2⟩; have z4 : H + 4 ≤ w4.heap.size := (by have := k1.bds; omega); have H4 := Lib.hid (And.intro k1 (And.intro k2 z4)); clear k1 k2 z4)
    | (go_at_call 23; refine (KT.out _ H4.out.2.1).mono ?_; rintro _ w5 ⟨tb, v, mt', rfl, t1, t2, t3, t4, t5, t6⟩; have H5 := Lib.hid (And.intro t1 (And.intro t2 (And.intro t3 (And.intro t4 (And.intro t5 t6))))); clear t1 t2 t3 t4 t5 t6)
    | (go_at_call 18; refine (floats_any Q dims cq qx _ (HP.out.1.mod (H3.out.2.1.trans (H4.out.2.1.trans H5.out.2.2.2.2.2))) (by omega) hdm.1).mono ?_; rintro _ w6 ⟨Q2, cq2, rfl, f1, f2, f3⟩; have H6 := Lib.hid (And.intro f1 (And.intro f2 f3)); clear f1 f2 f3)
    | (go_at_call 24; refine (set_call (n := n) hSf hdm H4.out.2.2 H4.out.1 H5.out.1 H5.out.2.1 H5.out.2.2.1 H5.out.2.2.2.1 H5.out.2.2.2.2.1 H5.out.2.2.2.2.2 H6.out.1 H6.out.2.1 H6.out.2.2 HP.out.2.1 HP.out.2.2.1 HP.out.2.2.2.1 HP.out.2.2.2.2.1 HP.out.2.2.2.2.2.1 HP.out.2.2.2.2.2.2.2).mono ?_; rintro _ w7 ⟨rfl, ts, rst, hb7, cap7, n1, n5, n6, n3, n7, n4⟩; have H7 := Lib.hid (And.intro n1 (And.intro n3 (And.intro n4 (And.intro n5 n6)))); have ykt := n3.top.1; have zkt := n3.top.2; clear n1 n3 n4 n5 n6 n7))
  have h6 : H + 4 ≤ w6.heap.size := by
    have h1 := H4.out.2.2
    have h2 := H5.out.2.2.2.2.2.size
    have h3 := H6.out.2.1.size
    omega
  have m76 : Mod (Sx H w6) w6 w7 := H7.out.2.2.1
  have hpts := (pts_ok (n := n) (tb := tb) (v := v) hdm.1 H4.out.2.2 H5.out.2.2.2.2.1 H5.out.2.2.1 H6.out.2.1 HP.out.2.2.1).mod m76
  have hisp : ∀ t ∈ ts, IsP ⟨Q2, cq2, qx⟩ dims t := fun t ht => H7.out.1.isp t (List.mem_append_left _ ht)
  have hok : ∀ t ∈ ts, t.2.Ok w7 dims := fun t ht => (hpts t.2 (H7.out.1.perm.mem_iff.1 (List.mem_map.2 ⟨t, List.mem_append_left _ ht, rfl⟩))).1
  have hlen : ts.length ≤ 60000 := by
    have h1 := H7.out.1.perm.length_eq
    have h2 := congrArg List.length (same_pts H5.out.2.2.1)
    have h3 := HP.out.2.2.2.2.2.2.2
    rw [List.length_map, List.length_append] at h1
    rw [List.length_map, List.length_map] at h2
    omega
  have m37 : Mod (fun k => H + 2 ≤ k) W3 w7 := by
    have h1 : Mod (fun k => H + 2 ≤ k) W3 w6 := none_S (((H4.out.2.1.trans H5.out.2.2.2.2.2)).trans H6.out.2.1)
    exact h1.trans ⟨m76.os, m76.tape, m76.output, m76.size, fun k hk hn => m76.block k hk (fun hs => hn (sx_high h6 hs))⟩
  have KF : Hid (Calls Tryz.prog 25 #[.slice (some ⟨hb7, 0, none⟩) ts.length cap7] w7 (KfTold dims ts w7)) := kfound_at hb7 cap7 dims ts w7 (fsrc_d H7.out.2.1 hisp) hok (by omega) ⟨hdm.1, by omega⟩
  have H7b := Lib.hid (And.intro m37 hlen)
  clear m76 hpts hisp hok m37 hlen
  go_wp2_with (go_at_call 25; refine KF.out.mono ?_; rintro _ w8 ⟨F8, c8, fs, rfl, g1, g2, g3, g4, g5, g6⟩; have b0 := H3.out.2.2.1.mod (H7b.out.1.trans (none_S g6)) (by omega); have b1 := H3.out.2.2.2.mod (H7b.out.1.trans (none_S g6)) (by omega); have y0 := b0.at (i := 0) rfl; have yb := b1.at (i := 0) rfl; have z0 := b0.frozen 0; have zb := b1.frozen 0; have H8 := Lib.hid (And.intro g1 (And.intro g2 (And.intro g3 (And.intro g4 (And.intro g5 (And.intro g6 (And.intro b0 b1))))))); clear g1 g2 g3 g4 g5 g6 b0 b1)
  obtain ⟨W9, eW9⟩ : ∃ W9, W9 = (w8.setCell ⟨H, 0, none⟩ (.slice F8 ts.length c8)).setCell ⟨H + 1, 0, none⟩ (.bool true) := ⟨_, rfl⟩
  rw [← eW9]
  obtain ⟨g1, g2, g3, g4, g5, g6, b0, b1⟩ := H8.out
  have s7 : H + 4 ≤ w7.heap.size := Nat.le_trans h6 H7.out.2.2.1.size
  have B0 : Blk W9 H 32 [.slice F8 ts.length c8] := by
    rw [eW9]
    exact (b0.set 0 (.slice F8 ts.length c8)).other (a := ⟨H + 1, 0, none⟩) (.bool true) (by show H + 1 ≠ H; omega)
  have B1 : Blk W9 (H + 1) 4 [.bool true] := by
    rw [eW9]
    exact (b1.other (a := ⟨H, 0, none⟩) (.slice F8 ts.length c8) (by show H ≠ H + 1; omega)).set 0 (.bool true)
  have m89 : Mod (fun k => k = H ∨ k = H + 1) w8 W9 := by
    rw [eW9]
    exact ((Mod.refl (fun k => k = H ∨ k = H + 1) w8).set (p := ⟨H, 0, none⟩) (.inl (.inl rfl)) _).set (p := ⟨H + 1, 0, none⟩) (.inl (.inr rfl)) _
  have hm9 : Mod (fun _ => False) w W9 := by
    have h1 : Mod (fun k => H ≤ k) w w7 := by
      have h2 := H7b.out.1
      have h3 : Mod (fun k => H ≤ k) w W3 := none_S H3.out.2.1
      exact h3.trans ⟨h2.os, h2.tape, h2.output, h2.size, fun k hk hn => h2.block k hk (fun hs => hn (by omega))⟩
    have h4 : Mod (fun k => H ≤ k) w W9 := (h1.trans (none_S g6)).trans ⟨m89.os, m89.tape, m89.output, m89.size, fun k hk hn => m89.block k hk (fun hs => hn (by omega))⟩
    exact ⟨h4.os, h4.tape, h4.output, h4.size, fun k hk _ => h4.block k hk (by omega)⟩
  have hfin : KsTold S dims qx (mt.pts.map TP.xs) w (.returned (.tuple #[.slice F8 ts.length c8, .bool true])) W9 := by
    refine ⟨F8, c8, ts.length, fs, rst.map (·.2.xs), rfl, FRows.modS g1 m89 (fun b o e => by have := g4 b o e; omega), fun x hx => ok_far (g3 x hx) (fun b o e => by have := g5 x hx b o e; omega) m89, fres_of H7.out.1 g2 (same_pts H5.out.2.2.1), ?_, hm9⟩
    refine ⟨fun x hx => ?_, fun b hb r hr => ?_⟩
    · obtain ⟨t, ht, _, h2⟩ := found_back g2 hx
      rw [h2]
      exact H7.out.2.2.2.1 t ht
    · obtain ⟨u, hu, rfl⟩ := List.mem_map.1 hb
      have h1 := H7.out.2.2.2.2 u hu
      have h2 := (H7.out.1.isp u (List.mem_append_right _ hu)).1.1
      rw [fk_same hr h2]
      exact h1
  have r0 := B0.at (i := 0) rfl
  have r1 := B1.at (i := 0) rfl
  have HFIN := Lib.hid hfin
  have HRR := Lib.hid (And.intro r0 r1)
  clear hfin r0 r1 eW9 B0 B1 hm9 m89 g1 g2 g3 g4 g5 g6 b0 b1 y0 yb z0 zb
  refine leaves_cons (f := 21) (args := #[.pointer (some ⟨H, 0, none⟩), .pointer (some ⟨H + 1, 0, none⟩)]) (by simp) (by simp [go_sem]) ?_
  refine (catch_idle ⟨H, 0, none⟩ ⟨H + 1, 0, none⟩ _).mono ?_
  rintro e u' w'' ⟨rfl, rfl, rfl⟩
  obtain ⟨r0, r1⟩ := HRR.out
  simp [Leaves, settle, results, Tryz.results8, go_sem, r0, r1]
  exact HFIN.out
end Go.Proofs.YtmeooadgdagiiaaGreat.K.D

namespace Go.Proofs.YtmeooadgdagiiaaGreat.K.D
open Go.RowKit Lox Go.Sort
set_option linter.unusedVariables false
attribute [local go_sem] run_store_flt run_store_fn
attribute [local go_sem ↓] Go.wp_at_zero Go.wp_at_succ

theorem knode0_at (A : Option Addr) (c : Nat) (w : World) : Calls Tryz.prog 34 #[.slice A 0 c, .int .i64 0] w fun e w' => e = .returned (.pointer none) ∧ w' = w := by
  go_enter Tryz.func34, Tryz.ntmps34
  go_wp2_with fail
  go_ret
  first | exact ⟨rfl, rfl⟩ | exact trivial | rfl

theorem ktree0_at (A : Option Addr) (c : Nat) (w : World) : Calls Tryz.prog 23 #[.slice A 0 c, .int .i64 0] w fun e w' => ∃ tb : Nat, e = .returned (.pointer (some ⟨tb, 0, none⟩)) ∧ Blk w' tb 56 [.pointer none, .int .i64 0] ∧ Mod (fun _ => False) w w' := by
  go_enter Tryz.func23, Tryz.ntmps23
  go_wp2_with (go_at_call 34; refine (knode0_at _ _ _).mono ?_; rintro _ _ ⟨rfl, rfl⟩)
  go_ret
  exact ⟨_, rfl, Blk.new' _ _ _, (Mod.refl _ _).alloc _⟩

theorem nset0_at (tb kb : Nat) (n : Int) (qv : Value) (w : World) (ht : Blk w tb 56 [.pointer none, .int .i64 n]) :
    Calls Tryz.prog 24 #[.pointer (some ⟨tb, 0, none⟩), KP kb, qv] w fun e w' => e = .returned (.tuple #[]) ∧ w = w' := by
  have c0 : w.cell? ⟨tb, 0, none⟩ = some (.pointer none) := ht.at (i := 0) rfl
  clear ht
  go_enter Tryz.func24, Tryz.ntmps24
  go_wp2_with fail
  first | exact bodyPost_ret (results_none rfl _ _ _) rfl ⟨rfl, rfl⟩ | ((try simp only [Exit.inBlock, Exit.then]); exact bodyPost_ret (results_none rfl _ _ _) rfl ⟨rfl, rfl⟩)

theorem kfound0_at (S kb hb c : Nat) (w : World) (h : DKS S w kb hb 1 c [none]) :
    Calls Tryz.prog 25 #[.slice (some ⟨hb, 0, none⟩) 1 c] w fun e w' => e = .returned (.slice none 0 0) ∧ Mod (fun _ => False) w w' := by
  obtain ⟨v, b, d0, d1, f0, f1, he⟩ := h.at (i := 0) (by simp)
  simp only [Nat.zero_mul, Nat.zero_add] at d0 d1
  have he' : v = .nilIface ∧ b = S := he
  obtain ⟨rfl, rfl⟩ := he'
  have heq : ∀ (w : World), (binOp .neq 81 .nilIface .nilIface).run Tryz.prog w = .ok (.bool false) w := fun _ => by kernel_rfl
  have HD := Lib.hid (And.intro d0 d1)
  clear h he f0 f1
  go_enter Tryz.func25, Tryz.ntmps25
  go_wp2_with fail
  go_loopw [3, 8] (fun v i w' => ∃ k : Nat, k ≤ 1 ∧ v = .slice none 0 0 ∧ i = .int .i64 k ∧ Hid (Mod (fun _ => False) w w')) (fun _ i _ => 1 - (intOf i).toNat)
  case atStart => exact ⟨0, by omega, rfl, rfl, Mod.refl _ _⟩
  case round =>
    obtain ⟨k, hk, rfl, rfl, HR⟩ := hrel
    by_cases hlt : k < 1
    · obtain rfl : k = 0 := by omega
      have e0 : wr.cell? ⟨hb, 0, none⟩ = some .nilIface := (HR.out.cell (lt_of_cell HD.out.1) (fun h => h)).trans HD.out.1
      have e1 : wr.cell? ⟨hb, 1, none⟩ = some (.float .f64 b) := (HR.out.cell (lt_of_cell HD.out.2) (fun h => h)).trans HD.out.2
      go_wp2_with fail
      go_roundw
      case rel => exact ⟨1, by omega, rfl, by go_num, HR.out.alloc _⟩
      case measure => simp [intOf]
    · obtain rfl : k = 1 := by omega
      go_wp2_with fail
      go_ret
      exact ⟨rfl, HR.out⟩

set_option maxRecDepth 100000 in
set_option maxHeartbeats 8000000 in
theorem kset0_at (A Q : Option Addr) (c cq dims S : Nat) (qx : List Nat) (w : World) (hdm : 0 < dims ∧ dims ≤ 4)
    (hq : Sl w Q dims 1 (flts qx)) (hSf : Lox.Fin S) :
    Calls Tryz.prog 8 #[.slice A 0 c, .slice Q dims cq, .float .f64 S] w (KsTold S dims qx [] w) := by
  have hmf : ∀ (fn : Fn) (first cap : Array Value) (w : World), (Instr.makeFunc fn first cap).run Tryz.prog w = .ok (.func fn first cap) w := fun _ _ _ _ => rfl
  obtain ⟨H, hH⟩ : ∃ H, w.heap.size = H := ⟨_, rfl⟩
  obtain ⟨W3, eW3, z3, m3, q0, q1⟩ := init_ks w H hH
  have hqxl : qx.length = dims := by have := hq.1; simpa [flts] using this
  have NK : Hid (Calls Tryz.prog 22 #[.float .f64 S] W3 fun e w' => e = .returned (.pointer (some ⟨H + 3, 0, none⟩)) ∧ DKS S w' (H + 3) (H + 2) 1 1 [none] ∧ Mod (fun _ => False) W3 w') := by
    have := knew_at W3 S
    rw [z3] at this
    exact this
  have H3 : Hid (W3.heap.size = H + 2 ∧ Mod (fun _ => False) w W3 ∧ Blk W3 H 32 [.slice none 0 0] ∧ Blk W3 (H + 1) 4 [.bool false]) := ⟨z3, m3, q0, q1⟩
  have HEW := Lib.hid eW3
  have HQ := Lib.hid hq
  clear hq z3 m3 q0 q1 eW3 hqxl
  go_enter_defers Tryz.func8, Tryz.ntmps8
  go_upto_region 4 with (first
    | (go_at_call 22; rw [← HEW.out]; refine NK.out.mono ?_; rintro _ w4 ⟨rfl, k1, k2⟩; have z4 : H + 4 ≤ w4.heap.size := (by have := k1.bds; omega); have H4 := Lib.hid (And.intro k1 (And.intro k2 z4)); clear k1 k2 z4)
    | (go_at_call 23; refine (ktree0_at _ _ _).mono ?_; rintro _ w5 ⟨tb, rfl, t1, t2⟩; have H5 := Lib.hid (And.intro t1 t2); clear t1 t2)
    | (go_at_call 18; refine (floats_any Q dims cq qx _ (HQ.out.mod (H3.out.2.1.trans (H4.out.2.1.trans H5.out.2))) (by omega) hdm.1).mono ?_; rintro _ w6 ⟨Q2, cq2, rfl, f1, f2, f3⟩; have H6 := Lib.hid f2; clear f1 f2 f3)
    | (go_at_call 24; refine (nset0_at tb (H + 3) 0 _ _ (H5.out.1.mod H6.out (fun h => h))).mono ?_; rintro _ _ ⟨rfl, rfl⟩; have hk6 := (H4.out.1.mod H5.out.2 (fun h => h) (fun h => h)).mod H6.out (fun h => h) (fun h => h); have HK6 := Lib.hid hk6; have ykt := hk6.top.1; have zkt := hk6.top.2; clear hk6))
  have h6 : H + 4 ≤ w6.heap.size := by
    have h1 := H4.out.2.2
    have h2 := H5.out.2.size
    have h3 := H6.out.size
    omega
  have m36 : Mod (fun _ => False) W3 w6 := (H4.out.2.1.trans H5.out.2).trans H6.out
  have KF : Hid (Calls Tryz.prog 25 #[.slice (some ⟨H + 2, 0, none⟩) 1 1] w6 fun e w' => e = .returned (.slice none 0 0) ∧ Mod (fun _ => False) w6 w') := kfound0_at S (H + 3) (H + 2) 1 w6 HK6.out
  have H7b := Lib.hid m36
  clear m36
  go_wp2_with (go_at_call 25; refine KF.out.mono ?_; rintro _ w8 ⟨rfl, g6⟩; have b0 := H3.out.2.2.1.mod (H7b.out.trans g6) (fun h => h); have b1 := H3.out.2.2.2.mod (H7b.out.trans g6) (fun h => h); have y0 := b0.at (i := 0) rfl; have yb := b1.at (i := 0) rfl; have z0 := b0.frozen 0; have zb := b1.frozen 0; have H8 := Lib.hid (And.intro g6 (And.intro b0 b1)); clear g6 b0 b1)
  obtain ⟨W9, eW9⟩ : ∃ W9, W9 = (w8.setCell ⟨H, 0, none⟩ (.slice none 0 0)).setCell ⟨H + 1, 0, none⟩ (.bool true) := ⟨_, rfl⟩
  rw [← eW9]
  obtain ⟨g6, b0, b1⟩ := H8.out
  have B0 : Blk W9 H 32 [.slice none 0 0] := by
    rw [eW9]
    exact (b0.set 0 (.slice none 0 0)).other (a := ⟨H + 1, 0, none⟩) (.bool true) (by show H + 1 ≠ H; omega)
  have B1 : Blk W9 (H + 1) 4 [.bool true] := by
    rw [eW9]
    exact (b1.other (a := ⟨H, 0, none⟩) (.slice none 0 0) (by show H ≠ H + 1; omega)).set 0 (.bool true)
  have m89 : Mod (fun k => k = H ∨ k = H + 1) w8 W9 := by
    rw [eW9]
    exact ((Mod.refl (fun k => k = H ∨ k = H + 1) w8).set (p := ⟨H, 0, none⟩) (.inl (.inl rfl)) _).set (p := ⟨H + 1, 0, none⟩) (.inl (.inr rfl)) _
  have hm9 : Mod (fun _ => False) w W9 := by
    have h1 : Mod (fun k => H ≤ k) w w8 := none_S ((H3.out.2.1.trans H7b.out).trans g6)
    have h4 : Mod (fun k => H ≤ k) w W9 := h1.trans ⟨m89.os, m89.tape, m89.output, m89.size, fun k hk hn => m89.block k hk (fun hs => hn (by omega))⟩
    exact ⟨h4.os, h4.tape, h4.output, h4.size, fun k hk _ => h4.block k hk (by omega)⟩
  have hfin : KsTold S dims qx [] w (.returned (.tuple #[.slice none 0 0, .bool true])) W9 :=
    ⟨none, 0, 0, [], [], rfl, ⟨rfl, fun h => by omega⟩, fun x hx => (by cases hx), ⟨fun x hx => (by cases hx), List.Perm.refl _, List.Pairwise.nil, fun a ha => (by cases ha)⟩, ⟨fun x hx => (by cases hx), fun b hb => (by cases hb)⟩, hm9⟩
  have r0 := B0.at (i := 0) rfl
  have r1 := B1.at (i := 0) rfl
  have HFIN := Lib.hid hfin
  have HRR := Lib.hid (And.intro r0 r1)
  clear hfin r0 r1 eW9 B0 B1 hm9 m89 g6 b0 b1 y0 yb z0 zb
  refine leaves_cons (f := 21) (args := #[.pointer (some ⟨H, 0, none⟩), .pointer (some ⟨H + 1, 0, none⟩)]) (by simp) (by simp [go_sem]) ?_
  refine (catch_idle ⟨H, 0, none⟩ ⟨H + 1, 0, none⟩ _).mono ?_
  rintro e u' w'' ⟨rfl, rfl, rfl⟩
  obtain ⟨r0, r1⟩ := HRR.out
  simp [Leaves, settle, results, Tryz.results8, go_sem, r0, r1]
  exact HFIN.out
end Go.Proofs.YtmeooadgdagiiaaGreat.K.D

namespace Go.Proofs.YtmeooadgdagiiaaGreat
open Go.RowKit Lox
set_option linter.unusedVariables false
attribute [local go_sem] run_store_flt run_store_fn

/-- The law answers true, and nothing that was there has turned. -/
def Yes (w : World) (e : Ending) (w' : World) : Prop := e = .returned (.bool true) ∧ Mod (fun _ => False) w w'

theorem not_false {b : Bool} (h : (!b) = false) : b = true := by simpa using h

theorem root_row {dims n : Nat} {ps qs is : List TP} {ks : List Nat} {mt : MT} {rs : List KR} (hn : 0 < n) (hl : ps.length = n) (hs : qs.map TP.xs = ps.map TP.xs) (hT : mt.T = KB.inss leB dims (KB.build leB dims n qs ks 0).1 is) (hr : rs.map KR.plain = mt.flat 0)
    {p : TP} (hp : ps[(KB.pick n ks).1]? = some p) : ∃ r0, rs[0]? = some r0 ∧ r0.p.xs = p.xs := by
  have hql : qs.length = n := by have := congrArg List.length hs; simpa [hl] using this
  obtain ⟨q, hq⟩ : ∃ q, qs[(KB.pick n ks).1]? = some q := ⟨_, List.getElem?_eq_getElem (by rw [hql]; exact KB.pick_lt n hn ks)⟩
  have hqp : q.xs = p.xs := by
    have h1 : (qs.map TP.xs)[(KB.pick n ks).1]? = some q.xs := by rw [List.getElem?_map, hq]; rfl
    rw [hs, List.getElem?_map, hp] at h1
    injection h1 with h1
    exact h1.symm
  obtain ⟨n', rfl⟩ : ∃ n', n = n' + 1 := ⟨n - 1, by omega⟩
  have hroot := KB.inss_root leB dims q is _ (KB.build_root leB dims n' qs ks (by omega) q (by rw [hql]; exact hq))
  rw [← hT] at hroot
  cases mt with
  | nil => exact hroot.elim
  | node g x d bx l r =>
    have hx : x = q := hroot
    subst hx
    cases rs with
    | nil => simp [MT.flat] at hr
    | cons r0 rs =>
      simp only [List.map_cons, MT.flat, List.cons.injEq] at hr
      refine ⟨r0, rfl, ?_⟩
      have := congrArg PR.xs hr.1
      exact this.trans hqp

theorem ints_nat {pk : List Int} (h : ∀ k ∈ pk, 0 ≤ k) : (pk.map Int.toNat).map Int.ofNat = pk := by
  rw [List.map_map]
  refine (List.map_congr_left fun k hk => ?_).trans (List.map_id _)
  have := h k hk
  show ((k.toNat : Nat) : Int) = k
  omega

/-- What the law's last row reads. -/
structure RootEnd (W : World) (b o t q0 : Nat) (A5 : Option Addr) (N : Nat) : Prop where
  ex : ∃ (g : Nat) (A : Option Addr) (c : Nat) (B : Option Addr) (c' : Nat) (xs : List Nat), A5 = some ⟨g, 0, none⟩ ∧ 0 < N ∧ N ≤ 9223372036854775807 ∧ W.cell? ⟨g, 0, none⟩ = some (.slice A q0 c) ∧ Sl W A q0 1 (flts xs) ∧ W.cell? ⟨b, o + t, none⟩ = some (.slice B q0 c') ∧ Sl W B q0 1 (flts xs) ∧ ∀ x ∈ xs, Num x

theorem root_end {w W : World} {H b o t q0 n : Nat} {A5 : Option Addr} {c5 : Nat} {ps qs is : List TP} {ks : List Nat} {mt : MT} {rs : List KR} (hn : 0 < n) (hl : ps.length = n) (hcell : ∀ j u, (ps.map TP.v)[j]? = some u → w.cell? ⟨b, o + j, none⟩ = some u) (hrd : ∀ p ∈ ps, p.Rd w)
    (hall : ∀ p ∈ ps, (p.xs.length : Int) = (q0 : Int) ∧ ∀ y ∈ p.xs, ∃ n, Wh y n) (hm : Mod (fun _ => False) w W) (hK : KS H W q0 (.slice A5 rs.length c5) rs) (hr : rs.map KR.plain = mt.flat 0) (hT : mt.T = KB.inss leB q0 (KB.build leB q0 n qs ks 0).1 is) (hs : qs.map TP.xs = ps.map TP.xs) (ht : t = (KB.pick n ks).1) :
    RootEnd W b o t q0 A5 rs.length := by
  have htn : t < n := by rw [ht]; exact KB.pick_lt n hn ks
  obtain ⟨p, hp⟩ : ∃ p, ps[t]? = some p := ⟨_, List.getElem?_eq_getElem (by omega)⟩
  have hpm := List.mem_of_getElem? hp
  obtain ⟨r0, hr0, hx⟩ := root_row hn hl hs hT hr (by rw [← ht]; exact hp)
  have hpos : 0 < rs.length := (List.getElem?_eq_some_iff.1 hr0).1
  obtain ⟨g, cap, e5, -, -⟩ := hK.own.form hpos
  injection e5 with e5 e6 e7
  subst e5
  have hc := (hK.cell rfl hr0 (j := 0) (by omega)).1
  have hok := (hK.ok r0 (List.mem_of_getElem? hr0)).1.1
  have hpl : p.xs.length = q0 := by have := (hall p hpm).1; omega
  have hpc := hcell t p.v (by rw [List.getElem?_map, hp]; rfl)
  have hcap : rs.length ≤ 9223372036854775807 := by
    rcases hK.own.2 with ⟨e, _⟩ | ⟨g', cap', cur, e1, hB, hg, hc1, hcm, _⟩
    · cases e
    · cases e1
      unfold maxLen at hcm
      omega
  refine ⟨g, r0.p.A, r0.p.c, p.A, p.c, p.xs, rfl, hpos, hcap, ?_, ?_, ?_, ?_, fun x hx => ?_⟩
  · rw [Nat.zero_mul] at hc
    rw [hc]
    show some (Value.slice r0.p.A r0.p.xs.length r0.p.c) = _
    rw [hok.1]
  · have := hok.2
    rw [hok.1, hx] at this
    exact this
  · refine (hm.cell (lt_of_cell hpc) (fun h => h)).trans ?_
    rw [hpc]
    show some (Value.slice p.A p.xs.length p.c) = _
    rw [hpl]
  · have := ((hrd p hpm).mod hm).1
    rw [hpl] at this
    exact this
  · obtain ⟨z, hz⟩ := (hall p hpm).2 x hx
    have hf := hz.1.1
    obtain ⟨s, m, i, hd⟩ := hf
    unfold Num
    rw [hd]
    rfl

theorem same_q (A B : Option Addr) (n c c' : Nat) (xs : List Nat) (w : World) (k : Nat) (ha : Sl w A n 1 (flts xs)) (hb : Sl w B n 1 (flts xs)) (hn : n ≤ 9223372036854775807) (hx : ∀ x ∈ xs, Num x) :
    Calls Tryz.prog 38 #[.slice A n c, .slice B n c'] (w.drewN k) fun e w' => e = .returned (.bool true) ∧ ∃ m, w' = w.drewN m :=
  (same_yes A B n c c' xs (w.drewN k) (ha.keep fun _ _ => rfl) (hb.keep fun _ _ => rfl) hn hx).mono fun _ _ ⟨he, hw⟩ => ⟨he, k, hw.symm⟩

end Go.Proofs.YtmeooadgdagiiaaGreat

namespace Go.Proofs.YtmeooadgdagiiaaGreat
open Go.RowKit Lox
set_option linter.unusedVariables false
attribute [local go_sem] run_store_flt run_store_fn

theorem flat_bare : ∀ (mt : MT) (i : Nat), mt.bare → ∀ x ∈ mt.flat i, x.mn = [] := by
  intro mt
  induction mt with
  | nil => intro i _ x hx; cases hx
  | node g p d bx l r ihl ihr =>
    intro i hb x hx
    obtain ⟨rfl, h1, h2⟩ := hb
    simp only [MT.flat] at hx
    rcases List.mem_cons.1 hx with rfl | hx
    · rfl
    · rcases List.mem_append.1 hx with hx | hx
      · exact ihl _ h1 x hx
      · exact ihr _ h2 x hx

/-- The tree that KBuild tells, as the searches want it. -/
structure Grown (dims : Nat) (all : List TP) (mt : MT) (rs : List KR) : Prop where
  seg : Seg rs mt 0
  box : ∀ x ∈ rs, x.mn.xs = [] ∨ (x.mn.xs.length = dims ∧ x.mx.xs.length = dims)
  some : mt ≠ .nil
  pts : (mt.pts.map TP.xs).Perm (all.map TP.xs)
  good : ∀ p ∈ mt.pts, p.xs.length = dims ∧ p.Gr
  ord : mt.T.Ord leB
  each : mt.T.Each (fun _ d => d < dims)

theorem grown_of {dims n m : Nat} {ps ins qs is : List TP} {ks : List Nat} {mt : MT} {rs : List KR} (hd : 0 < dims) (hn : ps.length = n) (hm : ins.length = m) (hN : 0 < n + m) (hall : ∀ p ∈ ps ++ ins, p.xs.length = dims ∧ p.Gr) (hr : rs.map KR.plain = mt.flat 0) (hT : mt.T = KB.inss leB dims (KB.build leB dims n qs ks 0).1 is) (hb : mt.bare) (hqs : qs.map TP.xs = ps.map TP.xs) (his : is.map TP.xs = ins.map TP.xs) : Grown dims (ps ++ ins) mt rs := by
  have hql : qs.length = n := by have := congrArg List.length hqs; simpa [hn] using this
  have hil : is.length = m := by have := congrArg List.length his; simpa [hm] using this
  obtain ⟨a1, a2, a3⟩ := KB.build_all leB dims hd n qs ks 0 (by omega) hd
  have hp : mt.pts.Perm (qs ++ is) := by
    rw [MT.pts_all, hT]
    exact (KB.inss_perm leB dims is _).trans (a1.append_right is)
  have hx : (mt.pts.map TP.xs).Perm ((ps ++ ins).map TP.xs) := by
    have h := hp.map TP.xs
    rw [List.map_append, hqs, his, ← List.map_append] at h
    exact h
  refine ⟨seg_root hr, fun x hx => .inl ?_, ?_, hx, fun p hp => ?_, by rw [hT]; exact KB.inss_ord leB dims is _ a2, by rw [hT]; exact KB.inss_each leB dims hd is _ a3⟩
  · have h1 : x.plain ∈ mt.flat 0 := by rw [← hr]; exact List.mem_map_of_mem hx
    exact flat_bare mt 0 hb _ h1
  · rintro rfl
    have := hx.length_eq
    simp [MT.pts, hn, hm] at this
    omega
  · have h1 : p.xs ∈ (ps ++ ins).map TP.xs := hx.mem_iff.1 (List.mem_map_of_mem hp)
    obtain ⟨p0, h2, h3⟩ := List.mem_map.1 h1
    obtain ⟨h4, h5⟩ := hall p0 h2
    exact ⟨by rw [← h3]; exact h4, gr_xs h5 h3.symm⟩

/-- The first of the squares is that of what was found. -/
theorem first_want {dims N : Nat} {all : List TP} {qx xs : List Nat} {pts : List (List Nat)} {ws : List Nat} (hN : 0 < N) (hl : ws.length = N) (hp : pts.Perm (all.map TP.xs)) (hx : xs ∈ pts) (hmin : ∀ y ∈ pts, sqx qx xs dims ≤ sqx qx y dims) (hup : Up ws) (hgn : ∀ y ∈ ws, Gn y) (hpm : (ws.map zv).Perm (all.map fun p => sqx p.xs qx dims)) :
    ∃ y0, ws[0]? = some y0 ∧ Gd 0 y0 (sqx xs qx dims) := by
  cases ws with
  | nil => simp at hl; omega
  | cons y0 ws =>
    refine ⟨y0, rfl, ?_⟩
    have hg := zv_gd (hgn y0 (by simp))
    have h1 : zv y0 ∈ (all.map fun p => sqx p.xs qx dims) := hpm.mem_iff.1 (by simp)
    obtain ⟨p1, h2, h3⟩ := List.mem_map.1 h1
    have h4 := hmin p1.xs (hp.mem_iff.2 (List.mem_map_of_mem h2))
    obtain ⟨p2, h5, h6⟩ := List.mem_map.1 (hp.mem_iff.1 hx)
    have h7 : sqx xs qx dims ∈ ((y0 :: ws).map zv) := hpm.mem_iff.2 (List.mem_map.2 ⟨p2, h5, by rw [h6]⟩)
    obtain ⟨y, hy, h8⟩ := List.mem_map.1 h7
    have h9 : zv y0 ≤ zv y := by
      rcases List.mem_cons.1 hy with rfl | hy
      · exact Int.le_refl _
      · exact (List.pairwise_cons.1 hup).1 y hy
    rw [sqx_comm qx xs, sqx_comm qx p1.xs, h3] at h4
    have e : zv y0 = sqx xs qx dims := by omega
    rw [← e]
    exact hg

theorem one_count {all : List TP} {pts : List (List Nat)} {xs : List Nat} {A : Option Addr} {c : Nat} (hp : pts.Perm (all.map TP.xs)) (hx : xs ∈ pts) : ∀ κ, (([(⟨A, c, xs⟩ : TP)]).map TP.key).count κ ≤ (all.map TP.key).count κ := by
  intro κ
  obtain ⟨p2, h5, h6⟩ := List.mem_map.1 (hp.mem_iff.1 hx)
  have hk : TP.key ⟨A, c, xs⟩ ∈ all.map TP.key := List.mem_map.2 ⟨p2, h5, by unfold TP.key; rw [h6]⟩
  simp only [List.map_cons, List.map_nil, List.count_singleton]
  split
  · rename_i e
    rw [← LawfulBEq.eq_of_beq e]
    exact List.count_pos_iff.2 hk
  · exact Nat.zero_le _

/-- What the law's look at the points tells. -/
def NrGood (ps ins : List TP) (qx : List Nat) (nq n m : Nat) (pk : List Int) : Prop :=
  (∀ p ∈ ps ++ ins, p.xs.length = nq ∧ p.Gr) ∧ (∀ x ∈ qx, ∃ n, Wh x n) ∧ (0 < nq ∧ nq ≤ 4) ∧ n + m ≤ 120 ∧ pk.length ≤ 80 ∧ ∀ k ∈ pk, 0 ≤ k

theorem nr_some {w : World} {O I P Q : Option Addr} {c ci cp cq n m nk nq : Nat} {ps ins : List TP} {pk : List Int} {qx : List Nat} (W : World) (hW : Mod (fun _ => False) w W) (hx : RR.Ok w ⟨O, c, ps⟩) (hy : RR.Ok w ⟨I, ci, ins⟩) (hP : Sl w P nk 1 (ints pk)) (hn : ps.length = n) (hm : ins.length = m) (hQ : Sl w Q nq 1 (flts qx)) (hql : qx.length = nq) (hnk : nk ≤ 2147483647) (h1 : n ≤ 2147483647) (h2 : m ≤ 2147483647) (hq : nq ≤ 9223372036854775807) :
    Calls Tryz.prog 6 #[.int .i64 nq, .float .f64 4697254411347427328, .slice P nk cp, .slice (some ⟨W.heap.size + 1, 0, none⟩) 3 3] ((W.alloc (.cells #[.slice Q nq cq] 24)).alloc (.cells #[.slice O n c, .slice I m ci, .slice (some ⟨W.heap.size, 0, none⟩) 1 1] 22)) fun e w' => ((W.alloc (.cells #[.slice Q nq cq] 24)).alloc (.cells #[.slice O n c, .slice I m ci, .slice (some ⟨W.heap.size, 0, none⟩) 1 1] 22)) = w' ∧ ∃ b, e = .returned (.bool b) ∧ (b = true → NrGood ps ins qx nq n m pk) := by
  subst hn hm hql
  have hm2 := (hW.alloc (.cells #[.slice Q qx.length cq] 24)).alloc (.cells #[.slice O ps.length c, .slice I ins.length ci, .slice (some ⟨W.heap.size, 0, none⟩) 1 1] 22)
  have hb1 : Blk ((W.alloc (.cells #[.slice Q qx.length cq] 24)).alloc (.cells #[.slice O ps.length c, .slice I ins.length ci, .slice (some ⟨W.heap.size, 0, none⟩) 1 1] 22)) W.heap.size 24 [.slice Q qx.length cq] := (Blk.new' W #[.slice Q qx.length cq] 24).alloc _
  have hb2 := Blk.new' (W.alloc (.cells #[.slice Q qx.length cq] 24)) #[.slice O ps.length c, .slice I ins.length ci, .slice (some ⟨W.heap.size, 0, none⟩) 1 1] 22
  rw [World.size_alloc] at hb2
  refine (some_at _ P 3 3 nk cp qx.length [⟨O, c, ps⟩, ⟨I, ci, ins⟩, ⟨some ⟨W.heap.size, 0, none⟩, 1, [⟨Q, cq, qx⟩]⟩] pk _ ⟨rfl, fun _ => ⟨W.heap.size + 1, 0, rfl, fun j u hu => ?_⟩⟩ (by omega) ?_ (hP.mod hm2) hnk).mono ?_
  · rw [Nat.zero_add]
    exact hb2.at (by rw [← hu]; rfl)
  · intro z hz
    rcases List.mem_cons.1 hz with rfl | hz
    · exact ⟨hx.mod hm2, h1⟩
    · rcases List.mem_cons.1 hz with rfl | hz
      · exact ⟨hy.mod hm2, h2⟩
      · rw [List.mem_singleton.1 hz]
        refine ⟨⟨⟨rfl, fun _ => ⟨W.heap.size, 0, rfl, fun j u hu => ?_⟩⟩, fun p hp => ?_, by show 1 ≤ _; omega⟩, by show 1 ≤ _; omega⟩
        · rw [Nat.zero_add]
          exact hb1.at (by rw [← hu]; rfl)
        · rw [List.mem_singleton.1 hp]
          exact ⟨hQ.mod hm2, hq⟩
  · rintro e w' ⟨h3, b, h4, h5⟩
    refine ⟨h3, b, h4, fun hb => ?_⟩
    obtain ⟨k1, k2, k3, k4, k5⟩ := h5 hb
    obtain ⟨a1, a2⟩ := k1 _ (List.mem_cons_self ..)
    obtain ⟨a3, -⟩ := k1 _ (List.mem_cons_of_mem _ (List.mem_cons_self ..))
    obtain ⟨a4, -⟩ := k1 _ (List.mem_cons_of_mem _ (List.mem_cons_of_mem _ (List.mem_cons_self ..)))
    refine ⟨fun p hp => ?_, fun x hx => (a4 _ (List.mem_cons_self ..)).2 x hx, by omega, by simp [many] at k3; omega, k4, k5⟩
    rcases List.mem_append.1 hp with hp | hp
    · exact ⟨by have := (a1 p hp).1; omega, TP.gr_of (a1 p hp).2⟩
    · exact ⟨by have := (a3 p hp).1; omega, TP.gr_of (a3 p hp).2⟩

theorem nr_rows {w w3 W : World} {O I A3 : Option Addr} {c ci n m N nq : Nat} {ps ins : List TP} {qx : List Nat} {pk : List Int} (h3 : Sl w3 A3 N 1 ((ps ++ ins).map TP.v)) (hx : RR.Ok w ⟨O, c, ps⟩) (hy : RR.Ok w ⟨I, ci, ins⟩) (hg : NrGood ps ins qx nq n m pk) (h03 : Mod (fun _ => False) w w3) (h3W : Mod (fun _ => False) w3 W) : PRows W A3 N (ps ++ ins) nq := by
  refine ⟨h3.mod h3W, fun p hp => ⟨?_, (hg.1 p hp).1⟩⟩
  rcases List.mem_append.1 hp with hp | hp
  · exact (hx.2.1 p hp).mod (h03.trans h3W)
  · exact (hy.2.1 p hp).mod (h03.trans h3W)

theorem nr_squares {w w3 W7 : World} {O I A3 Q : Option Addr} {c ci cq c3 n m N nq : Nat} {ps ins : List TP} {qx xs : List Nat} {pk : List Int} {pts : List (List Nat)} (h3 : Sl w3 A3 N 1 ((ps ++ ins).map TP.v)) (hN0 : 0 < N) (hn : ps.length = n) (hm : ins.length = m) (hN : N = n + m) (hx : RR.Ok w ⟨O, c, ps⟩) (hy : RR.Ok w ⟨I, ci, ins⟩) (hQ : Sl w Q nq 1 (flts qx)) (hql : qx.length = nq) (hg : NrGood ps ins qx nq n m pk) (h03 : Mod (fun _ => False) w w3) (h37 : Mod (fun _ => False) w3 W7) (hp : pts.Perm ((ps ++ ins).map TP.xs)) (hxs : xs ∈ pts) (hmin : ∀ y ∈ pts, sqx qx xs nq ≤ sqx qx y nq) :
    Hid (∀ W : World, Mod (fun _ => False) W7 W → Calls Tryz.prog 11 #[.slice A3 N c3, .slice Q nq cq] W fun e w' => ∃ (vb vo cV y0 : Nat), e = .returned (.slice (some ⟨vb, vo, none⟩) N cV) ∧ w'.cell? ⟨vb, vo, none⟩ = some (.float .f64 y0) ∧ (1 : Int) ≤ cV ∧ cV ≤ 9223372036854775807 ∧ Gd 0 y0 (sqx xs qx nq) ∧ Mod (fun _ => False) W w') := by
  intro W hW
  have hb := hg.2.2.2.1
  refine (squares_at A3 N c3 nq (ps ++ ins) ⟨Q, cq, qx⟩ W (nr_rows h3 hx hy hg h03 (h37.trans hW)) (fun p hp => (hg.1 p hp).2) ⟨hql, by show Sl W Q qx.length 1 _; rw [hql]; exact hQ.mod ((h03.trans h37).trans hW)⟩ (TP.gr_of hg.2.1) (by omega) hg.2.2.1.2).mono ?_
  rintro e w' ⟨V, cV, ws, rfl, s1, s2, s3, s4, s5, s6, s7⟩
  obtain ⟨vb, vo, rfl, hc⟩ := s1.2 hN0
  have hwl : ws.length = N := by have := s1.1; simpa [flts] using this
  obtain ⟨y0, hy0, hg0⟩ := first_want hN0 hwl hp hxs hmin s4 s5 s6
  exact ⟨vb, vo, cV, y0, rfl, hc 0 _ (flts_get hy0), by omega, s3, hg0, s7⟩

theorem nr_found {w w3 w6 W7 : World} {O I A3 Q A7 : Option Addr} {c ci cq c3 c7 n m N nq r : Nat} {ps ins : List TP} {qx xs : List Nat} {pk : List Int} {pts : List (List Nat)} (h3 : Sl w3 A3 N 1 ((ps ++ ins).map TP.v)) (hn : ps.length = n) (hm : ins.length = m) (hN : N = n + m) (hx : RR.Ok w ⟨O, c, ps⟩) (hy : RR.Ok w ⟨I, ci, ins⟩) (hQ : Sl w Q nq 1 (flts qx)) (hql : qx.length = nq) (hg : NrGood ps ins qx nq n m pk) (h03 : Mod (fun _ => False) w w3) (h37 : Mod (fun _ => False) w3 W7) (h67 : Mod (fun _ => False) w6 W7) (hp : pts.Perm ((ps ++ ins).map TP.xs)) (h7 : Sl w6 A7 nq 1 (flts xs)) (hxs : xs ∈ pts) (hr : Gd 0 r (sqx qx xs nq)) :
    Hid (∀ (W : World) (fb vb vo cV y0 : Nat), Mod (fun _ => False) W7 W → Blk W fb 68 [.slice A7 nq c7, .float .f64 r] → W.cell? ⟨vb, vo, none⟩ = some (.float .f64 y0) → Gd 0 y0 (sqx xs qx nq) → Calls Tryz.prog 9 #[.slice (some ⟨fb, 0, none⟩) 1 1, .slice A3 N c3, .slice Q nq cq, .slice (some ⟨vb, vo, none⟩) 1 cV] W fun e w' => e = .returned (.bool true) ∧ Mod (fun _ => False) W w') := by
  intro W fb vb vo cV y0 hW hb hc hy0
  have hxl : xs.length = nq := by have := h7.1; simpa [flts] using this
  have hb3 := hg.2.2.2.1
  obtain ⟨p2, hp2, hp3⟩ := List.mem_map.1 (hp.mem_iff.1 hxs)
  have hgr : TP.Gr ⟨A7, c7, xs⟩ := gr_xs (hg.1 p2 hp2).2 hp3.symm
  refine found_at (some ⟨fb, 0, none⟩) A3 (some ⟨vb, vo, none⟩) 1 1 N c3 cV nq [(⟨A7, c7, xs⟩, r)] (ps ++ ins) ⟨Q, cq, qx⟩ [y0] W ⟨rfl, fun _ => ⟨fb, 0, rfl, fun i x hi => ?_⟩⟩ (fun x hx => ?_) ⟨rfl, fun _ => ⟨vb, vo, rfl, fun j u hu => ?_⟩⟩ (fun i x y hi hj => ?_) (nr_rows h3 hx hy hg h03 (h37.trans hW)) (fun p hp => (hg.1 p hp).2) ⟨hql, by show Sl W Q qx.length 1 _; rw [hql]; exact hQ.mod ((h03.trans h37).trans hW)⟩ (TP.gr_of hg.2.1) (one_count hp hxs) (by omega) hg.2.2.1.2
  · cases i with
    | zero =>
      simp only [List.getElem?_cons_zero, Option.some.injEq] at hi
      subst hi
      refine ⟨?_, hb.at (i := 1) rfl⟩
      show W.cell? ⟨fb, 0, none⟩ = some (.slice A7 xs.length c7)
      rw [hxl]
      exact hb.at (i := 0) rfl
    | succ i => simp at hi
  · rw [List.mem_singleton.1 hx]
    exact ⟨⟨by show Sl W A7 xs.length 1 _; rw [hxl]; exact h7.mod (h67.trans hW), by show xs.length ≤ _; have := hg.2.2.1.2; omega⟩, hxl, hgr⟩
  · cases j with
    | zero =>
      simp only [flts, List.map_cons, List.map_nil, List.getElem?_cons_zero, Option.some.injEq] at hu
      subst hu
      exact hc
    | succ j => simp [flts] at hu
  · cases i with
    | zero =>
      simp only [List.getElem?_cons_zero, Option.some.injEq] at hi hj
      subst hi hj
      exact ⟨by rw [sqx_comm]; exact hr, hy0⟩
    | succ i => simp at hi

end Go.Proofs.YtmeooadgdagiiaaGreat
