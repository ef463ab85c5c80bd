/- Steps of a proof, one behind another: The walk of a keeper's making. The walk of KNearestSet (printed by wip/gen_kset.py). The walk of the making of a keeper within a distance. The walk of KWithin (printed by wip/gen_kset.py). The walks of withNumber and SquaresTo. The walk of SquaresTo. Conditions: as each theorem says. -/
import Derived.Test.YtmeooadgdagiiaaMs16
import Derived.Deep.OwnRows

namespace Go.Proofs.Ytmeooadgdagiiaa.K
open Go.RowKit Lox
set_option linter.unusedVariables false
attribute [local go_sem] run_store_flt run_store_fn

theorem made_pairs (n : Nat) : (madeCells #[.nilIface, .float .f64 0] (n * 2)).toList = flat (List.replicate n (.nilIface, 0)) := by
  have h1 : (flat (List.replicate n (.nilIface, 0))).length = n * 2 := by rw [flat_length, List.length_replicate]; omega
  apply List.ext_getElem?
  intro i
  by_cases hi : i < n * 2
  · have hk : i / 2 < n := by omega
    have hg := flat_get (List.replicate n (Value.nilIface, 0)) (i / 2) .nilIface 0 (by simp [hk])
    simp only [madeCells, Array.toList_map, Array.toList_range, List.getElem?_map, List.getElem?_range hi, Option.map_some]
    rcases Nat.mod_two_eq_zero_or_one i with h | h
    · have e : i / 2 * 2 = i := by omega
      rw [e] at hg
      rw [hg.1]
      simp [h]
    · have e : i / 2 * 2 + 1 = i := by omega
      rw [e] at hg
      rw [hg.2]
      simp [h]
  · rw [List.getElem?_eq_none (by simp [madeCells]; omega), List.getElem?_eq_none (by omega)]

set_option maxRecDepth 100000 in
set_option maxHeartbeats 4000000 in
theorem knew_at (w : World) (n : Nat) (h0 : 0 < n) (hl : n ≤ 1099511627776) :
    Calls Try.prog 55 #[.int .i64 n] w fun e w' => e = .returned (.pointer (some ⟨w.heap.size + 1, 0, none⟩)) ∧ KKS w' (w.heap.size + 1) w.heap.size 1 n [none] ∧ Mod (fun _ => False) w w' := by
  obtain ⟨i0, hi0, hz0, hz1, hz2⟩ := info_parts kinfo_cd
  have hmk : ∀ w : World, (Instr.makeSlice 106 (.int .i64 1) (.int .i64 (n : Int))).run Try.prog w = .ok (.slice (some ⟨w.heap.size, 0, none⟩) 1 n) (w.alloc (.cells (madeCells #[.nilIface, .float .f64 0] (n * 2)) 141)) := fun w => by
    have := run_make (P := Try.prog) w 106 141 i0 _ Try.underlying106 hi0 hz0 .i64 .i64 1 (n : Int) (by omega) (by omega) (by rw [hz2]; omega) (by omega)
    rw [hz1] at this
    exact this
  clear hi0 hz0 hz1 hz2
  obtain ⟨C, hC⟩ : ∃ C, C = madeCells #[Value.nilIface, .float .f64 0] (n * 2) := ⟨_, rfl⟩
  rw [← hC] at hmk
  obtain ⟨W, eW⟩ : ∃ W, W = (w.alloc (.cells C 141)).alloc (.cells #[.slice (some ⟨w.heap.size, 0, none⟩) 1 n] 108) := ⟨_, rfl⟩
  have bH : Blk W w.heap.size 141 (.nilIface :: .float .f64 0 :: flat (List.replicate (n - 1) (.nilIface, 0))) := by
    rw [eW]
    have e : (.nilIface :: .float .f64 0 :: flat (List.replicate (n - 1) (.nilIface, 0)) : List Value) = C.toList := by
      rw [hC, made_pairs]
      obtain ⟨m, rfl⟩ : ∃ m, n = m + 1 := ⟨n - 1, by omega⟩
      rfl
    rw [e]
    exact (Blk.new' w C 141).alloc _
  have bK : Blk W (w.heap.size + 1) 108 [.slice (some ⟨w.heap.size, 0, none⟩) 1 n] := by
    rw [eW]
    have := Blk.new' (w.alloc (.cells C 141)) #[.slice (some ⟨w.heap.size, 0, none⟩) 1 n] 108
    rw [World.size_alloc] at this
    exact this
  have hm : Mod (fun _ => False) w W := by rw [eW]; exact ((Mod.refl _ _).alloc _).alloc _
  have c0 := bK.at (i := 0) rfl
  have d1 := bH.at (i := 1) rfl
  have f1 := bH.frozen 1
  have HK : Hid (Blk W w.heap.size 141 (.nilIface :: .float .f64 0 :: flat (List.replicate (n - 1) (.nilIface, 0))) ∧ Blk W (w.heap.size + 1) 108 [.slice (some ⟨w.heap.size, 0, none⟩) 1 n] ∧ Mod (fun _ => False) w W) := ⟨bH, bK, hm⟩
  have HE := Lib.hid eW
  clear bH bK hm hC eW
  go_enter Try.func55, Try.ntmps55
  go_wp2_with fail
  rw [← HE.out]
  go_region_with (go_at_call 69; refine (inf_at _).mono ?_; rintro _ _ ⟨rfl, rfl⟩)
  all_goals
    go_wp2_with fail
    go_ret
    have hb := (HK.out.1.set 1 (.float .f64 INF)).drew
    refine ⟨rfl, ⟨[(.nilIface, INF)], flat (List.replicate (n - 1) (.nilIface, 0)), (HK.out.2.1.other _ (by show w.heap.size ≠ w.heap.size + 1; omega)).drew, hb, by rw [flat_length, List.length_replicate], rfl, h0, ⟨rfl, fun i v b hv => ?_⟩, by omega⟩, ?_⟩
    · cases i with
      | zero => simp at hv; obtain ⟨rfl, rfl⟩ := hv; exact ⟨rfl, rfl⟩
      | succ i => simp at hv
    · have h2 : Mod (fun _ => False) w (W.setCell ⟨w.heap.size, 1, none⟩ (.float .f64 INF)) := HK.out.2.2.set (p := ⟨w.heap.size, 1, none⟩) (.inr (Nat.le_refl _)) _
      exact h2.drew
end Go.Proofs.Ytmeooadgdagiiaa.K

namespace Go.Proofs.Ytmeooadgdagiiaa.K
open Go.RowKit Lox Go.Sort
set_option linter.unusedVariables false
attribute [local go_sem] run_store_flt run_store_fn
attribute [local go_sem ↓] Go.wp_at_zero Go.wp_at_succ

theorem catch_idle (p q : Addr) (w : World) :
    CallsD Try.prog 54 #[.pointer (some p), .pointer (some q)] .returning w fun e u' w' => e = .returned (.tuple #[]) ∧ u' = .returning ∧ w' = w := by
  refine callsD_of_wpS Try.func54 rfl fun c₀ cs hu => ?_
  apply wpS_seq
  apply wpS_region
  simp [wpOpsS, go_sem, recoverD, hu, Try.ntmps54, Exit.thenS]
  refine wpS_cond (t := false) (by simp [Act.eval, Array.replicate]) ?_
  simp only [Bool.false_eq_true, if_false]
  refine wpS_of_wp (wp_skip ?_)
  cases c₀
  simp_all [bodyPostS, results, Try.results54]

/-- Which blocks turn. -/
abbrev Sx (H : Nat) (w6 : World) : Nat → Prop := fun k => k = H + 2 ∨ k = H + 3

theorem sx_high {H k : Nat} {w6 : World} (h6 : H + 4 ≤ w6.heap.size) (h : Sx H w6 k) : H + 2 ≤ k := by
  rcases h with h | h <;> omega

/-- The points of the tree, in the world in which it is searched. -/
theorem pts_ok {H n dims tb : Nat} {v : Option Addr} {mt mt' : MT} {w4 w5 w6 : World} (hdm : 0 < dims) (z4 : H + 4 ≤ w4.heap.size) (t5 : ∀ p ∈ mt'.pts, TP.OkF w4.heap.size w5 dims p) (t3 : mt'.T.map TP.xs = mt.T.map TP.xs) (f2 : Mod (fun _ => False) w5 w6) (hP : ∀ p ∈ mt.pts, p.xs.length = dims ∧ p.Gr) : PtsOk (Sx H w6) w6 dims mt'.pts := by
  intro p hp
  obtain ⟨h1, h2⟩ := t5 p hp
  refine ⟨h1.mod0 f2, same_gr t3 (fun p hp => (hP p hp).2) p hp, fun b o e hs => ?_⟩
  have h3 := h2 b o e
  have h4 : b < w5.heap.size := (h1.2.far (by omega)) (by rw [h1.1]; exact hdm) b o e
  have h5 := f2.size
  rcases hs with hs | hs <;> omega

theorem set_call {H n dims tb m : Nat} {nn : Int} {v Q2 : Option Addr} {cq2 : Nat} {qx : List Nat} {mt mt' : MT} {w4 w5 w6 : World} (hm : 0 < m ∧ m ≤ 1099511627776) (hdm : 0 < dims ∧ dims ≤ 4) (z4 : H + 4 ≤ w4.heap.size) (k1 : KKS w4 (H + 3) (H + 2) 1 m [none])
    (t1 : Blk w5 tb 79 [.pointer v, .int .i64 nn]) (t2 : mt'.In w5 (.pointer v)) (t3 : mt'.T.map TP.xs = mt.T.map TP.xs) (t4 : ∀ g ∈ mt'.gs, w4.heap.size ≤ g) (t5 : ∀ p ∈ mt'.pts, TP.OkF w4.heap.size w5 dims p) (t6 : Mod (fun _ => False) w4 w5)
    (f1 : Sl w6 Q2 dims 1 (flts qx)) (f2 : Mod (fun _ => False) w5 w6) (f3 : ∀ b o, Q2 = some ⟨b, o, none⟩ → w5.heap.size ≤ b) (hqg : ∀ x ∈ qx, ∃ n, Wh x n) (hP : ∀ p ∈ mt.pts, p.xs.length = dims ∧ p.Gr) (ho : mt.T.Ord leB) (he : mt.T.Each (fun _ d => d < dims)) (h0 : mt ≠ .nil) (hN : mt.pts.length ≤ 60000) :
    Calls Try.prog 56 #[.pointer (some ⟨tb, 0, none⟩), KP (H + 3), .iface 73 (.slice Q2 dims cq2)] w6 (NsTold m ⟨Q2, cq2, qx⟩ dims (H + 3) (H + 2) m mt' w6) := by
  have hql : qx.length = dims := by have := f1.1; simpa [flts] using this
  have h5 := t6.size
  have h6 := f2.size
  refine nset_at dims tb (H + 3) (H + 2) m nn v hdm ⟨Q2, cq2, qx⟩ (TP.gr_of hqg) hql mt' (same_nil t3 h0) w6 (t1.mod f2 (fun h => h)) (t2.mod f2 (fun _ _ h => h)) ⟨hql, by show Sl w6 Q2 qx.length 1 _; rw [hql]; exact f1⟩ (pts_ok (n := n) (tb := tb) (v := v) hdm.1 z4 t5 t3 f2 hP) (fun b o e hs => ?_) (fun k hk hs => ?_) (same_ord t3 ho) (same_each t3 he) ((k1.mod t6 (fun h => h) (fun h => h)).mod f2 (fun h => h) (fun h => h)) (by have := congrArg List.length (same_pts t3); rw [List.length_map, List.length_map] at this; omega) hm.1 hm.2
  · have h3 := f3 b o e
    have h4 : b < w6.heap.size := (f1.far (by omega)) hdm.1 b o e
    rcases hs with hs | hs <;> omega
  · have h3 := t4 k hk
    have h4 := t2.lt k hk
    rcases hs with hs | hs <;> omega

/-- What KNearestSet tells. -/
def KsTold (m dims : Nat) (qx : List Nat) (pts : List (List Nat)) (w : World) (e : Ending) (w' : World) : Prop :=
  ∃ (F : Option Addr) (c N : Nat) (fs : List (TP × Nat)) (rest : List (List Nat)), e = .returned (.tuple #[.slice F N c, .bool true]) ∧ FRows w' F N fs ∧ (∀ x ∈ fs, x.1.Ok w' dims) ∧ FRes dims qx pts fs rest ∧ N = min m pts.length ∧ Mod (fun _ => False) w w'

set_option maxRecDepth 100000 in
set_option maxHeartbeats 8000000 in
theorem kset_at (A Q : Option Addr) (c n cq dims B m : Nat) (qx : List Nat) (rs : List KR) (mt : MT) (w : World) (hdm : 0 < dims ∧ dims ≤ 4) (hn : n = rs.length) (hbx : ∀ x ∈ rs, x.mn.xs = [] ∨ (x.mn.xs.length = dims ∧ x.mx.xs.length = dims)) (h0 : mt ≠ .nil) (hK : KS B w dims (.slice A n c) rs) (hS : Seg rs mt 0)
    (hq : Sl w Q dims 1 (flts qx)) (hqg : ∀ x ∈ qx, ∃ n, Wh x n) (hP : ∀ p ∈ mt.pts, p.xs.length = dims ∧ p.Gr) (ho : mt.T.Ord leB) (he : mt.T.Each (fun _ d => d < dims)) (hN : mt.pts.length ≤ 60000) (hm : 0 < m ∧ m ≤ 1099511627776) :
    Calls Try.prog 25 #[.slice A n c, .slice Q dims cq, .int .i64 m] w (KsTold m dims qx (mt.pts.map TP.xs) w) := by
  have hmf : ∀ (fn : Fn) (first cap : Array Value) (w : World), (Instr.makeFunc fn first cap).run Try.prog w = .ok (.func fn first cap) w := fun _ _ _ _ => rfl
  obtain ⟨H, hH⟩ : ∃ H, w.heap.size = H := ⟨_, rfl⟩
  obtain ⟨W3, eW3, z3, m3, q0, q1⟩ := init_ks w H hH
  have hqxl : qx.length = dims := by have := hq.1; simpa [flts] using this
  have KT : Hid (∀ w4, Mod (fun _ => False) W3 w4 → Calls Try.prog 42 #[.slice A n c, .int .i64 0] w4 (TrMadeF dims n mt w4)) := fun w4 hm => ktreeF_at A c n dims B rs hdm hn hbx mt h0 w4 (hK.mod (m3.trans hm)) hS
  have NK : Hid (Calls Try.prog 55 #[.int .i64 m] W3 fun e w' => e = .returned (.pointer (some ⟨H + 3, 0, none⟩)) ∧ KKS w' (H + 3) (H + 2) 1 m [none] ∧ Mod (fun _ => False) W3 w') := by
    have := knew_at W3 m hm.1 hm.2
    rw [z3] at this
    exact this
  have H3 : Hid (W3.heap.size = H + 2 ∧ Mod (fun _ => False) w W3 ∧ Blk W3 H 55 [.slice none 0 0] ∧ Blk W3 (H + 1) 4 [.bool false]) := ⟨z3, m3, q0, q1⟩
  have HEW := Lib.hid eW3
  have HP := Lib.hid (And.intro hq (And.intro hqg (And.intro hP (And.intro ho (And.intro he (And.intro h0 (And.intro hqxl hN)))))))
  clear hK hS hn hbx h0 hq hqg hP ho he z3 m3 q0 q1 eW3 hqxl hN
  go_enter_defers Try.func25, Try.ntmps25
  go_upto_region 4 with (first
    | (go_at_call 55; rw [← HEW.out]; refine NK.out.mono ?_; rintro _ w4 ⟨rfl, k1, k2⟩; have z4 : H + 4 ≤ w4.heap.size := (by have := k1.bds; omega); have H4 := Lib.hid (And.intro k1 (And.intro k2 z4)); clear k1 k2 z4)
    | (go_at_call 42; refine (KT.out _ H4.out.2.1).mono ?_; rintro _ w5 ⟨tb, v, mt', rfl, t1, t2, t3, t4, t5, t6⟩; have H5 := Lib.hid (And.intro t1 (And.intro t2 (And.intro t3 (And.intro t4 (And.intro t5 t6))))); clear t1 t2 t3 t4 t5 t6)
    | (go_at_call 33; refine (floats_any Q dims cq qx _ (HP.out.1.mod (H3.out.2.1.trans (H4.out.2.1.trans H5.out.2.2.2.2.2))) (by omega) hdm.1).mono ?_; rintro _ w6 ⟨Q2, cq2, rfl, f1, f2, f3⟩; have H6 := Lib.hid (And.intro f1 (And.intro f2 f3)); clear f1 f2 f3)
    | (go_at_call 56; refine (set_call (n := n) hm hdm H4.out.2.2 H4.out.1 H5.out.1 H5.out.2.1 H5.out.2.2.1 H5.out.2.2.2.1 H5.out.2.2.2.2.1 H5.out.2.2.2.2.2 H6.out.1 H6.out.2.1 H6.out.2.2 HP.out.2.1 HP.out.2.2.1 HP.out.2.2.2.1 HP.out.2.2.2.2.1 HP.out.2.2.2.2.2.1 HP.out.2.2.2.2.2.2.2).mono ?_; rintro _ w7 ⟨rfl, ts, rst, n1, n2, n3, n4⟩; have H7 := Lib.hid (And.intro n1 (And.intro n3 (And.intro n4 n2))); have ykt := n3.top.1; have zkt := n3.top.2; clear n1 n3 n4 n2))
  have h6 : H + 4 ≤ w6.heap.size := by
    have h1 := H4.out.2.2
    have h2 := H5.out.2.2.2.2.2.size
    have h3 := H6.out.2.1.size
    omega
  have m76 : Mod (Sx H w6) w6 w7 := H7.out.2.2.1
  have hpts := (pts_ok (n := n) (tb := tb) (v := v) hdm.1 H4.out.2.2 H5.out.2.2.2.2.1 H5.out.2.2.1 H6.out.2.1 HP.out.2.2.1).mod m76
  have hisp : ∀ t ∈ ts, IsP ⟨Q2, cq2, qx⟩ dims t := fun t ht => H7.out.1.isp t (List.mem_append_left _ ht)
  have hok : ∀ t ∈ ts, t.2.Ok w7 dims := fun t ht => (hpts t.2 (H7.out.1.perm.mem_iff.1 (List.mem_map.2 ⟨t, List.mem_append_left _ ht, rfl⟩))).1
  have hlen : ts.length ≤ 60000 := by
    have h1 := H7.out.1.perm.length_eq
    have h2 := congrArg List.length (same_pts H5.out.2.2.1)
    have h3 := HP.out.2.2.2.2.2.2.2
    rw [List.length_map, List.length_append] at h1
    rw [List.length_map, List.length_map] at h2
    omega
  have m37 : Mod (fun k => H + 2 ≤ k) W3 w7 := by
    have h1 : Mod (fun k => H + 2 ≤ k) W3 w6 := none_S (((H4.out.2.1.trans H5.out.2.2.2.2.2)).trans H6.out.2.1)
    exact h1.trans ⟨m76.os, m76.tape, m76.output, m76.size, fun k hk hn => m76.block k hk (fun hs => hn (sx_high h6 hs))⟩
  have KF : Hid (Calls Try.prog 57 #[.slice (some ⟨(H + 2), 0, none⟩) ts.length m] w7 (KfTold dims ts w7)) := kfound_at (H + 2) m dims ts w7 (fsrc_k H7.out.2.1 hisp) hok (by omega) ⟨hdm.1, by omega⟩
  have H7b := Lib.hid (And.intro m37 hlen)
  clear m76 hpts hisp hok m37 hlen
  go_wp2_with (go_at_call 57; refine KF.out.mono ?_; rintro _ w8 ⟨F8, c8, fs, rfl, g1, g2, g3, g4, g5, g6⟩; have b0 := H3.out.2.2.1.mod (H7b.out.1.trans (none_S g6)) (by omega); have b1 := H3.out.2.2.2.mod (H7b.out.1.trans (none_S g6)) (by omega); have y0 := b0.at (i := 0) rfl; have yb := b1.at (i := 0) rfl; have z0 := b0.frozen 0; have zb := b1.frozen 0; have H8 := Lib.hid (And.intro g1 (And.intro g2 (And.intro g3 (And.intro g4 (And.intro g5 (And.intro g6 (And.intro b0 b1))))))); clear g1 g2 g3 g4 g5 g6 b0 b1)
  obtain ⟨W9, eW9⟩ : ∃ W9, W9 = (w8.setCell ⟨H, 0, none⟩ (.slice F8 ts.length c8)).setCell ⟨H + 1, 0, none⟩ (.bool true) := ⟨_, rfl⟩
  rw [← eW9]
  obtain ⟨g1, g2, g3, g4, g5, g6, b0, b1⟩ := H8.out
  have s7 : H + 4 ≤ w7.heap.size := Nat.le_trans h6 H7.out.2.2.1.size
  have B0 : Blk W9 H 55 [.slice F8 ts.length c8] := by
    rw [eW9]
    exact (b0.set 0 (.slice F8 ts.length c8)).other (a := ⟨H + 1, 0, none⟩) (.bool true) (by show H + 1 ≠ H; omega)
  have B1 : Blk W9 (H + 1) 4 [.bool true] := by
    rw [eW9]
    exact (b1.other (a := ⟨H, 0, none⟩) (.slice F8 ts.length c8) (by show H ≠ H + 1; omega)).set 0 (.bool true)
  have m89 : Mod (fun k => k = H ∨ k = H + 1) w8 W9 := by
    rw [eW9]
    exact ((Mod.refl (fun k => k = H ∨ k = H + 1) w8).set (p := ⟨H, 0, none⟩) (.inl (.inl rfl)) _).set (p := ⟨H + 1, 0, none⟩) (.inl (.inr rfl)) _
  have hm9 : Mod (fun _ => False) w W9 := by
    have h1 : Mod (fun k => H ≤ k) w w7 := by
      have h2 := H7b.out.1
      have h3 : Mod (fun k => H ≤ k) w W3 := none_S H3.out.2.1
      exact h3.trans ⟨h2.os, h2.tape, h2.output, h2.size, fun k hk hn => h2.block k hk (fun hs => hn (by omega))⟩
    have h4 : Mod (fun k => H ≤ k) w W9 := (h1.trans (none_S g6)).trans ⟨m89.os, m89.tape, m89.output, m89.size, fun k hk hn => m89.block k hk (fun hs => hn (by omega))⟩
    exact ⟨h4.os, h4.tape, h4.output, h4.size, fun k hk _ => h4.block k hk (by omega)⟩
  have hfin : KsTold m dims qx (mt.pts.map TP.xs) w (.returned (.tuple #[.slice F8 ts.length c8, .bool true])) W9 := by
    refine ⟨F8, c8, ts.length, fs, rst.map (·.2.xs), rfl, FRows.modS g1 m89 (fun b o e => by have := g4 b o e; omega), fun x hx => ok_far (g3 x hx) (fun b o e => by have := g5 x hx b o e; omega) m89, fres_of H7.out.1 g2 (same_pts H5.out.2.2.1), ?_, hm9⟩
    rw [List.length_map, H7.out.2.2.2]
    have := congrArg List.length (same_pts H5.out.2.2.1)
    rw [List.length_map, List.length_map] at this
    rw [this]
  have r0 := B0.at (i := 0) rfl
  have r1 := B1.at (i := 0) rfl
  have HFIN := Lib.hid hfin
  have HRR := Lib.hid (And.intro r0 r1)
  clear hfin r0 r1 eW9 B0 B1 hm9 m89 g1 g2 g3 g4 g5 g6 b0 b1 y0 yb z0 zb
  refine leaves_cons (f := 54) (args := #[.pointer (some ⟨H, 0, none⟩), .pointer (some ⟨H + 1, 0, none⟩)]) (by simp) (by simp [go_sem]) ?_
  refine (catch_idle ⟨H, 0, none⟩ ⟨H + 1, 0, none⟩ _).mono ?_
  rintro e u' w'' ⟨rfl, rfl, rfl⟩
  obtain ⟨r0, r1⟩ := HRR.out
  simp [Leaves, settle, results, Try.results25, go_sem, r0, r1]
  exact HFIN.out
end Go.Proofs.Ytmeooadgdagiiaa.K

namespace Go.Proofs.Ytmeooadgdagiiaa.K.D
open Go.RowKit Lox
set_option linter.unusedVariables false
attribute [local go_sem] run_store_flt run_store_fn

set_option maxRecDepth 100000 in
set_option maxHeartbeats 4000000 in
theorem knew_at (w : World) (S : Nat) :
    Calls Try.prog 59 #[.float .f64 S] w fun e w' => e = .returned (.pointer (some ⟨w.heap.size + 1, 0, none⟩)) ∧ DKS S w' (w.heap.size + 1) w.heap.size 1 1 [none] ∧ Mod (fun _ => False) w w' := by
  obtain ⟨W, eW⟩ : ∃ W, W = (w.alloc (.cells #[.nilIface, .float .f64 S] 141)).alloc (.cells #[.slice (some ⟨w.heap.size, 0, none⟩) 1 1] 111) := ⟨_, rfl⟩
  have bH : Blk W w.heap.size 141 [.nilIface, .float .f64 S] := by
    rw [eW]
    exact (Blk.new' w #[.nilIface, .float .f64 S] 141).alloc _
  have bK : Blk W (w.heap.size + 1) 111 [.slice (some ⟨w.heap.size, 0, none⟩) 1 1] := by
    rw [eW]
    have := Blk.new' (w.alloc (.cells #[.nilIface, .float .f64 S] 141)) #[.slice (some ⟨w.heap.size, 0, none⟩) 1 1] 111
    rw [World.size_alloc] at this
    exact this
  have hm : Mod (fun _ => False) w W := by rw [eW]; exact ((Mod.refl _ _).alloc _).alloc _
  have HK := Lib.hid (And.intro bH (And.intro bK hm))
  have HE := Lib.hid eW
  clear bH bK hm eW
  go_enter Try.func59, Try.ntmps59
  go_wp2_with fail
  go_ret
  try rw [← HE.out]
  refine ⟨rfl, ⟨[(.nilIface, S)], [], HK.out.2.1, HK.out.1, rfl, rfl, Nat.le_refl _, ⟨rfl, fun i v b hv => ?_⟩, by omega⟩, HK.out.2.2⟩
  cases i with
  | zero => simp at hv; obtain ⟨rfl, rfl⟩ := hv; exact ⟨rfl, rfl⟩
  | succ i => simp at hv
end Go.Proofs.Ytmeooadgdagiiaa.K.D

namespace Go.Proofs.Ytmeooadgdagiiaa.K.D
open Go.RowKit Lox Go.Sort
set_option linter.unusedVariables false
attribute [local go_sem] run_store_flt run_store_fn
attribute [local go_sem ↓] Go.wp_at_zero Go.wp_at_succ

theorem catch_idle (p q : Addr) (w : World) :
    CallsD Try.prog 58 #[.pointer (some p), .pointer (some q)] .returning w fun e u' w' => e = .returned (.tuple #[]) ∧ u' = .returning ∧ w' = w := by
  refine callsD_of_wpS Try.func58 rfl fun c₀ cs hu => ?_
  apply wpS_seq
  apply wpS_region
  simp [wpOpsS, go_sem, recoverD, hu, Try.ntmps58, Exit.thenS]
  refine wpS_cond (t := false) (by simp [Act.eval, Array.replicate]) ?_
  simp only [Bool.false_eq_true, if_false]
  refine wpS_of_wp (wp_skip ?_)
  cases c₀
  simp_all [bodyPostS, results, Try.results58]

/-- Which blocks turn. -/
abbrev Sx (H : Nat) (w6 : World) : Nat → Prop := fun k => k = H + 2 ∨ k = H + 3 ∨ w6.heap.size ≤ k

theorem sx_high {H k : Nat} {w6 : World} (h6 : H + 4 ≤ w6.heap.size) (h : Sx H w6 k) : H + 2 ≤ k := by
  rcases h with h | h | h <;> omega

/-- The points of the tree, in the world in which it is searched. -/
theorem pts_ok {H n dims tb : Nat} {v : Option Addr} {mt mt' : MT} {w4 w5 w6 : World} (hdm : 0 < dims) (z4 : H + 4 ≤ w4.heap.size) (t5 : ∀ p ∈ mt'.pts, TP.OkF w4.heap.size w5 dims p) (t3 : mt'.T.map TP.xs = mt.T.map TP.xs) (f2 : Mod (fun _ => False) w5 w6) (hP : ∀ p ∈ mt.pts, p.xs.length = dims ∧ p.Gr) : PtsOk (Sx H w6) w6 dims mt'.pts := by
  intro p hp
  obtain ⟨h1, h2⟩ := t5 p hp
  refine ⟨h1.mod0 f2, same_gr t3 (fun p hp => (hP p hp).2) p hp, fun b o e hs => ?_⟩
  have h3 := h2 b o e
  have h4 : b < w5.heap.size := (h1.2.far (by omega)) (by rw [h1.1]; exact hdm) b o e
  have h5 := f2.size
  rcases hs with hs | hs | hs <;> omega

theorem set_call {H n dims tb S : Nat} {nn : Int} {v Q2 : Option Addr} {cq2 : Nat} {qx : List Nat} {mt mt' : MT} {w4 w5 w6 : World} (hSf : Lox.Fin S) (hdm : 0 < dims ∧ dims ≤ 4) (z4 : H + 4 ≤ w4.heap.size) (k1 : DKS S w4 (H + 3) (H + 2) 1 1 [none])
    (t1 : Blk w5 tb 79 [.pointer v, .int .i64 nn]) (t2 : mt'.In w5 (.pointer v)) (t3 : mt'.T.map TP.xs = mt.T.map TP.xs) (t4 : ∀ g ∈ mt'.gs, w4.heap.size ≤ g) (t5 : ∀ p ∈ mt'.pts, TP.OkF w4.heap.size w5 dims p) (t6 : Mod (fun _ => False) w4 w5)
    (f1 : Sl w6 Q2 dims 1 (flts qx)) (f2 : Mod (fun _ => False) w5 w6) (f3 : ∀ b o, Q2 = some ⟨b, o, none⟩ → w5.heap.size ≤ b) (hqg : ∀ x ∈ qx, ∃ n, Wh x n) (hP : ∀ p ∈ mt.pts, p.xs.length = dims ∧ p.Gr) (ho : mt.T.Ord leB) (he : mt.T.Each (fun _ d => d < dims)) (h0 : mt ≠ .nil) (hN : mt.pts.length ≤ 60000) :
    Calls Try.prog 56 #[.pointer (some ⟨tb, 0, none⟩), KP (H + 3), .iface 73 (.slice Q2 dims cq2)] w6 (NsTold S ⟨Q2, cq2, qx⟩ dims (H + 3) (H + 2) 1 mt' w6) := by
  have hql : qx.length = dims := by have := f1.1; simpa [flts] using this
  have h5 := t6.size
  have h6 := f2.size
  refine nset_at dims tb (H + 3) (H + 2) 1 S nn v hdm ⟨Q2, cq2, qx⟩ (TP.gr_of hqg) hql mt' (same_nil t3 h0) w6 (t1.mod f2 (fun h => h)) (t2.mod f2 (fun _ _ h => h)) ⟨hql, by show Sl w6 Q2 qx.length 1 _; rw [hql]; exact f1⟩ (pts_ok (n := n) (tb := tb) (v := v) hdm.1 z4 t5 t3 f2 hP) (fun b o e hs => ?_) (fun k hk hs => ?_) (same_ord t3 ho) (same_each t3 he) ((k1.mod t6 (fun h => h) (fun h => h)).mod f2 (fun h => h) (fun h => h)) (by have := congrArg List.length (same_pts t3); rw [List.length_map, List.length_map] at this; omega) (by unfold maxLen; omega) hSf
  · have h3 := f3 b o e
    have h4 : b < w6.heap.size := (f1.far (by omega)) hdm.1 b o e
    rcases hs with hs | hs | hs <;> omega
  · have h3 := t4 k hk
    have h4 := t2.lt k hk
    rcases hs with hs | hs | hs <;> omega

/-- What KWithin tells. -/
def KsTold (S dims : Nat) (qx : List Nat) (pts : List (List Nat)) (w : World) (e : Ending) (w' : World) : Prop :=
  ∃ (F : Option Addr) (c N : Nat) (fs : List (TP × Nat)) (rest : List (List Nat)), e = .returned (.tuple #[.slice F N c, .bool true]) ∧ FRows w' F N fs ∧ (∀ x ∈ fs, x.1.Ok w' dims) ∧ FRes dims qx pts fs rest ∧ ((∀ x ∈ fs, fk x.2 ≤ fk S) ∧ (∀ b ∈ rest, ∀ r, Gd 0 r (sqx qx b dims) → fk S < fk r)) ∧ Mod (fun _ => False) w w'

set_option maxRecDepth 100000 in
set_option maxHeartbeats 8000000 in
theorem kset_at (A Q : Option Addr) (c n cq dims B S : Nat) (qx : List Nat) (rs : List KR) (mt : MT) (w : World) (hdm : 0 < dims ∧ dims ≤ 4) (hn : n = rs.length) (hbx : ∀ x ∈ rs, x.mn.xs = [] ∨ (x.mn.xs.length = dims ∧ x.mx.xs.length = dims)) (h0 : mt ≠ .nil) (hK : KS B w dims (.slice A n c) rs) (hS : Seg rs mt 0)
    (hq : Sl w Q dims 1 (flts qx)) (hqg : ∀ x ∈ qx, ∃ n, Wh x n) (hP : ∀ p ∈ mt.pts, p.xs.length = dims ∧ p.Gr) (ho : mt.T.Ord leB) (he : mt.T.Each (fun _ d => d < dims)) (hN : mt.pts.length ≤ 60000) (hSf : Lox.Fin S) :
    Calls Try.prog 26 #[.slice A n c, .slice Q dims cq, .float .f64 S] w (KsTold S dims qx (mt.pts.map TP.xs) w) := by
  have hmf : ∀ (fn : Fn) (first cap : Array Value) (w : World), (Instr.makeFunc fn first cap).run Try.prog w = .ok (.func fn first cap) w := fun _ _ _ _ => rfl
  obtain ⟨H, hH⟩ : ∃ H, w.heap.size = H := ⟨_, rfl⟩
  obtain ⟨W3, eW3, z3, m3, q0, q1⟩ := init_ks w H hH
  have hqxl : qx.length = dims := by have := hq.1; simpa [flts] using this
  have KT : Hid (∀ w4, Mod (fun _ => False) W3 w4 → Calls Try.prog 42 #[.slice A n c, .int .i64 0] w4 (TrMadeF dims n mt w4)) := fun w4 hm => ktreeF_at A c n dims B rs hdm hn hbx mt h0 w4 (hK.mod (m3.trans hm)) hS
  have NK : Hid (Calls Try.prog 59 #[.float .f64 S] W3 fun e w' => e = .returned (.pointer (some ⟨H + 3, 0, none⟩)) ∧ DKS S w' (H + 3) (H + 2) 1 1 [none] ∧ Mod (fun _ => False) W3 w') := by
    have := knew_at W3 S
    rw [z3] at this
    exact this
  have H3 : Hid (W3.heap.size = H + 2 ∧ Mod (fun _ => False) w W3 ∧ Blk W3 H 55 [.slice none 0 0] ∧ Blk W3 (H + 1) 4 [.bool false]) := ⟨z3, m3, q0, q1⟩
  have HEW := Lib.hid eW3
  have HP := Lib.hid (And.intro hq (And.intro hqg (And.intro hP (And.intro ho (And.intro he (And.intro h0 (And.intro hqxl hN)))))))
  clear hK hS hn hbx h0 hq hqg hP ho he z3 m3 q0 q1 eW3 hqxl hN
  go_enter_defers Try.func26, Try.ntmps26
  go_upto_region 4 with (first
    | (go_at_call 59; rw [← HEW.out]; refine NK.out.mono ?_; rintro _ w4 ⟨rfl, k1, k2⟩; have z4 : H + 4 ≤ w4.heap.size := (by have := k1.bds; omega); have H4 := Lib.hid (And.intro k1 (And.intro k2 z4)); clear k1 k2 z4)
    | (go_at_call 42; refine (KT.out _ H4.out.2.1).mono ?_; rintro _ w5 ⟨tb, v, mt', rfl, t1, t2, t3, t4, t5, t6⟩; have H5 := Lib.hid (And.intro t1 (And.intro t2 (And.intro t3 (And.intro t4 (And.intro t5 t6))))); clear t1 t2 t3 t4 t5 t6)
    | (go_at_call 33; refine (floats_any Q dims cq qx _ (HP.out.1.mod (H3.out.2.1.trans (H4.out.2.1.trans H5.out.2.2.2.2.2))) (by omega) hdm.1).mono ?_; rintro _ w6 ⟨Q2, cq2, rfl, f1, f2, f3⟩; have H6 := Lib.hid (And.intro f1 (And.intro f2 f3)); clear f1 f2 f3)
    | (go_at_call 56; refine (set_call (n := n) hSf hdm H4.out.2.2 H4.out.1 H5.out.1 H5.out.2.1 H5.out.2.2.1 H5.out.2.2.2.1 H5.out.2.2.2.2.1 H5.out.2.2.2.2.2 H6.out.1 H6.out.2.1 H6.out.2.2 HP.out.2.1 HP.out.2.2.1 HP.out.2.2.2.1 HP.out.2.2.2.2.1 HP.out.2.2.2.2.2.1 HP.out.2.2.2.2.2.2.2).mono ?_; rintro _ w7 ⟨rfl, ts, rst, hb7, cap7, n1, n5, n6, n3, n7, n4⟩; have H7 := Lib.hid (And.intro n1 (And.intro n3 (And.intro n4 (And.intro n5 n6)))); have ykt := n3.top.1; have zkt := n3.top.2; clear n1 n3 n4 n5 n6 n7))
  have h6 : H + 4 ≤ w6.heap.size := by
    have h1 := H4.out.2.2
    have h2 := H5.out.2.2.2.2.2.size
    have h3 := H6.out.2.1.size
    omega
  have m76 : Mod (Sx H w6) w6 w7 := H7.out.2.2.1
  have hpts := (pts_ok (n := n) (tb := tb) (v := v) hdm.1 H4.out.2.2 H5.out.2.2.2.2.1 H5.out.2.2.1 H6.out.2.1 HP.out.2.2.1).mod m76
  have hisp : ∀ t ∈ ts, IsP ⟨Q2, cq2, qx⟩ dims t := fun t ht => H7.out.1.isp t (List.mem_append_left _ ht)
  have hok : ∀ t ∈ ts, t.2.Ok w7 dims := fun t ht => (hpts t.2 (H7.out.1.perm.mem_iff.1 (List.mem_map.2 ⟨t, List.mem_append_left _ ht, rfl⟩))).1
  have hlen : ts.length ≤ 60000 := by
    have h1 := H7.out.1.perm.length_eq
    have h2 := congrArg List.length (same_pts H5.out.2.2.1)
    have h3 := HP.out.2.2.2.2.2.2.2
    rw [List.length_map, List.length_append] at h1
    rw [List.length_map, List.length_map] at h2
    omega
  have m37 : Mod (fun k => H + 2 ≤ k) W3 w7 := by
    have h1 : Mod (fun k => H + 2 ≤ k) W3 w6 := none_S (((H4.out.2.1.trans H5.out.2.2.2.2.2)).trans H6.out.2.1)
    exact h1.trans ⟨m76.os, m76.tape, m76.output, m76.size, fun k hk hn => m76.block k hk (fun hs => hn (sx_high h6 hs))⟩
  have KF : Hid (Calls Try.prog 57 #[.slice (some ⟨hb7, 0, none⟩) ts.length cap7] w7 (KfTold dims ts w7)) := kfound_at hb7 cap7 dims ts w7 (fsrc_d H7.out.2.1 hisp) hok (by omega) ⟨hdm.1, by omega⟩
  have H7b := Lib.hid (And.intro m37 hlen)
  clear m76 hpts hisp hok m37 hlen
  go_wp2_with (go_at_call 57; refine KF.out.mono ?_; rintro _ w8 ⟨F8, c8, fs, rfl, g1, g2, g3, g4, g5, g6⟩; have b0 := H3.out.2.2.1.mod (H7b.out.1.trans (none_S g6)) (by omega); have b1 := H3.out.2.2.2.mod (H7b.out.1.trans (none_S g6)) (by omega); have y0 := b0.at (i := 0) rfl; have yb := b1.at (i := 0) rfl; have z0 := b0.frozen 0; have zb := b1.frozen 0; have H8 := Lib.hid (And.intro g1 (And.intro g2 (And.intro g3 (And.intro g4 (And.intro g5 (And.intro g6 (And.intro b0 b1))))))); clear g1 g2 g3 g4 g5 g6 b0 b1)
  obtain ⟨W9, eW9⟩ : ∃ W9, W9 = (w8.setCell ⟨H, 0, none⟩ (.slice F8 ts.length c8)).setCell ⟨H + 1, 0, none⟩ (.bool true) := ⟨_, rfl⟩
  rw [← eW9]
  obtain ⟨g1, g2, g3, g4, g5, g6, b0, b1⟩ := H8.out
  have s7 : H + 4 ≤ w7.heap.size := Nat.le_trans h6 H7.out.2.2.1.size
  have B0 : Blk W9 H 55 [.slice F8 ts.length c8] := by
    rw [eW9]
    exact (b0.set 0 (.slice F8 ts.length c8)).other (a := ⟨H + 1, 0, none⟩) (.bool true) (by show H + 1 ≠ H; omega)
  have B1 : Blk W9 (H + 1) 4 [.bool true] := by
    rw [eW9]
    exact (b1.other (a := ⟨H, 0, none⟩) (.slice F8 ts.length c8) (by show H ≠ H + 1; omega)).set 0 (.bool true)
  have m89 : Mod (fun k => k = H ∨ k = H + 1) w8 W9 := by
    rw [eW9]
    exact ((Mod.refl (fun k => k = H ∨ k = H + 1) w8).set (p := ⟨H, 0, none⟩) (.inl (.inl rfl)) _).set (p := ⟨H + 1, 0, none⟩) (.inl (.inr rfl)) _
  have hm9 : Mod (fun _ => False) w W9 := by
    have h1 : Mod (fun k => H ≤ k) w w7 := by
      have h2 := H7b.out.1
      have h3 : Mod (fun k => H ≤ k) w W3 := none_S H3.out.2.1
      exact h3.trans ⟨h2.os, h2.tape, h2.output, h2.size, fun k hk hn => h2.block k hk (fun hs => hn (by omega))⟩
    have h4 : Mod (fun k => H ≤ k) w W9 := (h1.trans (none_S g6)).trans ⟨m89.os, m89.tape, m89.output, m89.size, fun k hk hn => m89.block k hk (fun hs => hn (by omega))⟩
    exact ⟨h4.os, h4.tape, h4.output, h4.size, fun k hk _ => h4.block k hk (by omega)⟩
  have hfin : KsTold S dims qx (mt.pts.map TP.xs) w (.returned (.tuple #[.slice F8 ts.length c8, .bool true])) W9 := by
    refine ⟨F8, c8, ts.length, fs, rst.map (·.2.xs), rfl, FRows.modS g1 m89 (fun b o e => by have := g4 b o e; omega), fun x hx => ok_far (g3 x hx) (fun b o e => by have := g5 x hx b o e; omega) m89, fres_of H7.out.1 g2 (same_pts H5.out.2.2.1), ?_, hm9⟩
    refine ⟨fun x hx => ?_, fun b hb r hr => ?_⟩
    · obtain ⟨t, ht, _, h2⟩ := found_back g2 hx
      rw [h2]
      exact H7.out.2.2.2.1 t ht
    · obtain ⟨u, hu, rfl⟩ := List.mem_map.1 hb
      have h1 := H7.out.2.2.2.2 u hu
      have h2 := (H7.out.1.isp u (List.mem_append_right _ hu)).1.1
      rw [fk_same hr h2]
      exact h1
  have r0 := B0.at (i := 0) rfl
  have r1 := B1.at (i := 0) rfl
  have HFIN := Lib.hid hfin
  have HRR := Lib.hid (And.intro r0 r1)
  clear hfin r0 r1 eW9 B0 B1 hm9 m89 g1 g2 g3 g4 g5 g6 b0 b1 y0 yb z0 zb
  refine leaves_cons (f := 58) (args := #[.pointer (some ⟨H, 0, none⟩), .pointer (some ⟨H + 1, 0, none⟩)]) (by simp) (by simp [go_sem]) ?_
  refine (catch_idle ⟨H, 0, none⟩ ⟨H + 1, 0, none⟩ _).mono ?_
  rintro e u' w'' ⟨rfl, rfl, rfl⟩
  obtain ⟨r0, r1⟩ := HRR.out
  simp [Leaves, settle, results, Try.results26, go_sem, r0, r1]
  exact HFIN.out
end Go.Proofs.Ytmeooadgdagiiaa.K.D

namespace Lox
open Go Go.RowKit
set_option linter.unusedVariables false

/-- A word of a whole number. -/
def Gn (x : Nat) : Prop := ∃ n, Gd 0 x n
open Classical in
/-- The whole number that a word stands for. -/
noncomputable def zv (x : Nat) : Int := if h : Gn x then Classical.choose h else 0
theorem zv_gd {x : Nat} (h : Gn x) : Gd 0 x (zv x) := by
  unfold zv
  rw [dif_pos h]
  exact Classical.choose_spec h
theorem zv_eq {x : Nat} {n : Int} (h : Gd 0 x n) : zv x = n := gd_unique (zv_gd ⟨n, h⟩) h

/-- xs with x at place i. -/
def insAt (xs : List Nat) (x i : Nat) : List Nat := xs.take i ++ x :: xs.drop i

theorem insAt_end (xs : List Nat) (x : Nat) : insAt xs x xs.length = xs ++ [x] := by simp [insAt]
theorem insAt_len {xs : List Nat} {x i : Nat} (h : i ≤ xs.length) : (insAt xs x i).length = xs.length + 1 := by simp [insAt]; omega
theorem split_at {xs : List Nat} {j y : Nat} (h : xs[j]? = some y) : ∃ A B, xs = A ++ y :: B ∧ A.length = j := by
  obtain ⟨hl, e⟩ := List.getElem?_eq_some_iff.1 h
  refine ⟨xs.take j, xs.drop (j + 1), ?_, by simp; omega⟩
  rw [← e, ← List.drop_eq_getElem_cons hl, List.take_append_drop]
theorem insAt_at {A B : List Nat} {x y : Nat} : insAt (A ++ y :: B) x A.length = A ++ x :: y :: B ∧ insAt (A ++ y :: B) x (A.length + 1) = A ++ y :: x :: B := by
  unfold insAt
  constructor
  · simp
  · have e : A ++ y :: B = (A ++ [y]) ++ B := by simp
    have l : A.length + 1 = (A ++ [y]).length := by simp
    rw [e, l, List.take_left, List.drop_left]
    simp
theorem insAt_swap {xs : List Nat} {x y j : Nat} (h : xs[j]? = some y) : ((insAt xs x (j + 1)).set (j + 1) y).set j x = insAt xs x j := by
  obtain ⟨A, B, rfl, rfl⟩ := split_at h
  rw [insAt_at.1, insAt_at.2]
  simp
theorem insAt_get {xs : List Nat} {x y j : Nat} (h : xs[j]? = some y) : (insAt xs x (j + 1))[j]? = some y ∧ (insAt xs x (j + 1))[j + 1]? = some x := by
  obtain ⟨A, B, rfl, rfl⟩ := split_at h
  rw [insAt_at.2]
  simp
theorem insAt_perm (xs : List Nat) (x i : Nat) : (insAt xs x i).Perm (x :: xs) := by
  unfold insAt
  refine List.perm_middle.trans ?_
  rw [List.take_append_drop]

/-- Sorted by the numbers. -/
def Up (xs : List Nat) : Prop := xs.Pairwise fun a b => zv a ≤ zv b

theorem insAt_up {xs : List Nat} {x i : Nat} (h : Up xs) (hi : i ≤ xs.length) (h1 : ∀ y ∈ xs.drop i, zv x < zv y) (h2 : ∀ j y, i = j + 1 → xs[j]? = some y → zv y ≤ zv x) : Up (insAt xs x i) := by
  have h0 : Up (xs.take i ++ xs.drop i) := by rw [List.take_append_drop]; exact h
  obtain ⟨a1, a2, a3⟩ := List.pairwise_append.1 h0
  refine List.pairwise_append.2 ⟨a1, List.pairwise_cons.2 ⟨fun y hy => by have := h1 y hy; omega, a2⟩, fun a ha b hb => ?_⟩
  rcases List.mem_cons.1 hb with rfl | hb
  · cases i with
    | zero => simp at ha
    | succ j =>
      obtain ⟨y, hy⟩ : ∃ y, xs[j]? = some y := ⟨_, List.getElem?_eq_getElem (by omega)⟩
      have hyx := h2 j y rfl hy
      rw [List.take_add_one, hy] at ha a1
      rcases List.mem_append.1 ha with ha | ha
      · have := (List.pairwise_append.1 a1).2.2 a ha y (by simp)
        omega
      · have : a = y := by simpa using ha
        rw [this]; exact hyx
  · exact a3 a ha b hb

theorem own_at {w : World} {B : Nat} {e : TypeId} {g n cap : Nat} {xs : List Value} (h : w.ownsRow B e 1 (.slice (some ⟨g, 0, none⟩) n cap) n xs) {j : Nat} {u : Value} (hu : xs[j]? = some u) : w.cell? ⟨g, j, none⟩ = some u ∧ w.frozen? ⟨g, j, none⟩ = false := by
  have h1 := h.cells (g := g) rfl j u hu
  rw [addr_lit, Nat.zero_add] at h1
  refine ⟨h1, ?_⟩
  rcases h.2 with ⟨e1, _⟩ | ⟨g', cap', cur, e1, hB, hg, _⟩
  · cases e1
  · cases e1
    have hb : Blk w g e cur.toList := by unfold Blk; simpa using hg
    exact hb.frozen _
end Lox
namespace Go.Proofs.Ytmeooadgdagiiaa
open Go.RowKit Lox
set_option linter.unusedVariables false
attribute [local go_sem] run_store_flt run_store_fn

theorem flts_set (xs : List Nat) (i x : Nat) : (flts xs).set i (.float .f64 x) = flts (xs.set i x) := by unfold flts; rw [List.map_set]
theorem flts_app (xs ys : List Nat) : flts xs ++ flts ys = flts (xs ++ ys) := by unfold flts; rw [List.map_append]
theorem flts_get {xs : List Nat} {j x : Nat} (h : xs[j]? = some x) : (flts xs)[j]? = some (.float .f64 x) := by unfold flts; rw [List.getElem?_map, h]; rfl

/-- What withNumber tells: the row's new value, the place. -/
def WithTold (B n : Nat) (v : Value) (xs : List Nat) (x : Nat) (w : World) (e : Ending) (w' : World) : Prop :=
  ∃ (g cap i : Nat), e = .returned (.slice (some ⟨g, 0, none⟩) (n + 1) cap) ∧ w'.ownsRow B 27 1 (.slice (some ⟨g, 0, none⟩) (n + 1) cap) (n + 1) (flts (insAt xs x i)) ∧ i ≤ n ∧ (∀ y ∈ xs.drop i, zv x < zv y) ∧ (∀ j y, i = j + 1 → xs[j]? = some y → zv y ≤ zv x) ∧ Mod (fun k => v.ownBlock = some k) w w' ∧ (v.ownBlock = some g ∨ w.heap.size ≤ g)

/-- The loop's state. -/
structure WS (B n g cap : Nat) (v : Value) (xs : List Nat) (x i : Nat) (w w' : World) : Prop where
  own : w'.ownsRow B 27 1 (.slice (some ⟨g, 0, none⟩) (n + 1) cap) (n + 1) (flts (insAt xs x i))
  gt : ∀ y ∈ xs.drop i, zv x < zv y
  mod : Mod (fun k => v.ownBlock = some k) w w'
  at' : v.ownBlock = some g ∨ w.heap.size ≤ g

theorem WS.step {B n g cap i y x : Nat} {v : Value} {xs : List Nat} {w w' : World} (h : WS B n g cap v xs x (i + 1) w w') (hy : xs[i]? = some y) (hlt : zv x < zv y) : WS B n g cap v xs x i w ((w'.setCell ⟨g, i + 1, none⟩ (.float .f64 y)).setCell ⟨g, i, none⟩ (.float .f64 x)) := by
  refine ⟨?_, fun z hz => ?_, (h.mod.set (p := ⟨g, i + 1, none⟩) h.at' _).set (p := ⟨g, i, none⟩) h.at' _, h.at'⟩
  · have h2 := own_set_at (i := i) (own_set_at (i := i + 1) h.own (.float .f64 y)) (.float .f64 x)
    rw [flts_set, flts_set, insAt_swap hy] at h2
    exact h2
  · obtain ⟨A, B', rfl, rfl⟩ := split_at hy
    rw [List.drop_left] at hz
    rcases List.mem_cons.1 hz with rfl | hz
    · exact hlt
    · refine h.gt z ?_
      have e : A ++ y :: B' = (A ++ [y]) ++ B' := by simp
      have l : A.length + 1 = (A ++ [y]).length := by simp
      rw [e, l, List.drop_left]
      exact hz

set_option maxHeartbeats 4000000 in
theorem with_at (B n : Nat) (v : Value) (xs : List Nat) (x : Nat) (w : World) (hown : w.ownsRow B 27 1 v n (flts xs)) (hn : n ≤ 2147483647) (hB : B ≤ w.heap.size) (hg : ∀ y ∈ xs, Gn y) (hx : Gn x) :
    Calls Try.prog 53 #[v, .float .f64 x] w (WithTold B n v xs x w) := by
  obtain ⟨i0, hi0, hz0, hz1, hz2⟩ := info_parts info_f64
  have HI := Lib.hid (And.intro hi0 (And.intro hz0 (And.intro hz1 hz2)))
  clear hi0 hz0 hz1 hz2
  have hxl : xs.length = n := by have := hown.1; simpa [flts] using this
  have HH := Lib.hid (And.intro hown (And.intro hB (And.intro hg (And.intro hx hxl))))
  clear hown hB hg hx hxl
  go_enter Try.func53, Try.ntmps53
  go_wp2_with (at_builtin; refine wpList_append_lies _ (by rfl) (.tmp 6) (.tmp 8) 26 (by rfl) B 27 i0 _ 1 8 Try.underlying26 HI.out.1 HI.out.2.1 HI.out.2.2.1 HI.out.2.2.2 rfl (by omega) v n (flts xs) (by rfl) ((HH.out.1.kept (Mod.grownBy (Mod.refl _ w)) (Decidable.em _)).alloc _) ⟨w.heap.size, 0, none⟩ 1 1 [.float .f64 x] (by rfl) (by rfl) (World.news_of_block (cs := #[.float .f64 x]) (t := 27) (fr := (0, 0)) (heap_alloc_new w _)) (by simp [Value.oneCell']) (by omega) (by unfold maxLen; omega) (by omega) (by have := HH.out.2.1; simp; omega) (w.heap.size + 1) (by simp) ?_; intro g cap w3 hown3 hgrow hat hlt3; have HG := Lib.hid (And.intro hown3 (And.intro hgrow hat)); clear hown3 hgrow hat)
  have hws : WS B n g cap v xs x n w w3 := by
    obtain ⟨h1, h2, h3⟩ := HG.out
    refine ⟨?_, fun y hy => ?_, ((Mod.refl _ w).alloc _).grown h2 (fun k e _ => e), ?_⟩
    · have e : flts xs ++ [.float .f64 x] = flts (insAt xs x n) := by rw [← HH.out.2.2.2.2, insAt_end, ← flts_app]; rfl
      rw [e] at h1
      exact h1
    · rw [← HH.out.2.2.2.2, List.drop_length] at hy; cases hy
    · rcases h3 with h3 | h3
      · exact .inl h3
      · exact .inr (by omega)
  have HW0 := Lib.hid hws
  clear hws
  go_loopw [5] (fun i w' => ∃ k : Nat, k ≤ n ∧ i = .int .i64 k ∧ Hid (WS B n g cap v xs x k w w')) (fun i _ => (intOf i).toNat)
  case atStart => exact ⟨n, Nat.le_refl _, by go_num, HW0.out⟩
  case round =>
    obtain ⟨k, hk, rfl, HR⟩ := hrel
    cases k with
    | zero =>
      go_wp2
      go_ret
      exact ⟨g, cap, 0, rfl, HR.out.own, Nat.zero_le _, HR.out.gt, (fun j y e => by omega), HR.out.mod, HR.out.at'⟩
    | succ j =>
      obtain ⟨y, hy⟩ : ∃ y, xs[j]? = some y := ⟨_, List.getElem?_eq_getElem (by have := HH.out.2.2.2.2; omega)⟩
      obtain ⟨g1, g2⟩ := insAt_get (x := x) hy
      obtain ⟨c1, z1⟩ := own_at HR.out.own (flts_get g1)
      obtain ⟨c2, z2⟩ := own_at HR.out.own (flts_get g2)
      have gy := HH.out.2.2.1 y (List.mem_of_getElem? hy)
      have hgt := (zv_gd gy).gt (zv_gd HH.out.2.2.2.1)
      have HY := Lib.hid hy
      have j0 : (0 : Int) ≤ j := by omega
      have j1 : (j : Int) < (n : Int) + 1 := by omega
      have j2 : (j : Int) + 1 < (n : Int) + 1 := by omega
      clear hy g1 g2 gy
      by_cases hlt : zv x < zv y
      · rw [decide_eq_true hlt] at hgt
        have HLT := Lib.hid hlt
        clear hlt
        go_wp2
        go_roundw
        case rel => exact ⟨j, by omega, by go_num, HR.out.step HY.out HLT.out⟩
        case measure => simp [intOf]
      · rw [decide_eq_false hlt] at hgt
        have HLT := Lib.hid hlt
        clear hlt
        go_wp2
        go_ret
        exact ⟨g, cap, j + 1, rfl, HR.out.own, hk, HR.out.gt, (fun j' y' e e2 => by
          obtain rfl : j' = j := by omega
          have e3 := HY.out.symm.trans e2
          injection e3 with e3
          subst e3
          have := HLT.out
          omega), HR.out.mod, HR.out.at'⟩
end Go.Proofs.Ytmeooadgdagiiaa

namespace Go.Proofs.Ytmeooadgdagiiaa
open Go.RowKit Lox
set_option linter.unusedVariables false
attribute [local go_sem] run_store_flt run_store_fn

/-- Numbers that have been laid in order so far, in a row of their own. -/
structure SQ (w w' : World) (v : Value) (k : Nat) (ns : List Int) (ws : List Nat) : Prop where
  own : w'.ownsRow w.heap.size 27 1 v k (flts ws)
  up : Up ws
  gn : ∀ y ∈ ws, Gn y
  perm : (ws.map zv).Perm ns
  mod : Mod (fun _ => False) w w'

theorem SQ.step {w w' w1 w2 : World} {v : Value} {k r : Nat} {ns : List Int} {n : Int} {ws : List Nat} {e : Ending} (h : SQ w w' v k ns ws) (h1 : Mod (fun _ => False) w' w1) (hr : Gd 0 r n) (hw : WithTold w.heap.size k v ws r w1 e w2) :
    ∃ (g cap : Nat) (ws' : List Nat), e = .returned (.slice (some ⟨g, 0, none⟩) (k + 1) cap) ∧ SQ w w2 (.slice (some ⟨g, 0, none⟩) (k + 1) cap) (k + 1) (ns ++ [n]) ws' := by
  obtain ⟨g, cap, i, rfl, a1, a2, a3, a4, a5, a6⟩ := hw
  have hl : ws.length = k := by have := h.own.1; simpa [flts] using this
  have hp := insAt_perm ws r i
  refine ⟨g, cap, insAt ws r i, rfl, a1, insAt_up h.up (by omega) a3 a4, fun y hy => ?_, ?_, (h.mod.trans h1).trans' a5 fun j hj e => ?_⟩
  · rcases List.mem_cons.1 (hp.mem_iff.1 hy) with rfl | hy
    · exact ⟨n, hr⟩
    · exact h.gn y hy
  · refine (hp.map zv).trans ?_
    rw [List.map_cons, zv_eq hr]
    exact (List.Perm.cons n h.perm).trans (List.perm_append_comm (l₁ := [n]) (l₂ := ns))
  · have := (own_block h.own e).1
    omega

/-- What SquaresTo tells. -/
def SqTold (n : Nat) (ns : List Int) (w : World) (e : Ending) (w' : World) : Prop :=
  ∃ (V : Option Addr) (c : Nat) (ws : List Nat), e = .returned (.slice V n c) ∧ Sl w' V n 1 (flts ws) ∧ n ≤ c ∧ c ≤ 9223372036854775807 ∧ Up ws ∧ (∀ y ∈ ws, Gn y) ∧ (ws.map zv).Perm ns ∧ Mod (fun _ => False) w w'

theorem SQ.told {w w' : World} {v : Value} {n : Nat} {ns : List Int} {ws : List Nat} (h : SQ w w' v n ns ws) : SqTold n ns w (.returned v) w' := by
  rcases h.own.2 with ⟨rfl, h0⟩ | ⟨g, cap, cur, rfl, hB, hg, hc, hcm, hsz, ht⟩
  · subst h0
    exact ⟨none, 0, ws, rfl, ⟨by have := h.own.1; simpa using this, fun h => by omega⟩, Nat.le_refl _, by omega, h.up, h.gn, h.perm, h.mod⟩
  · refine ⟨_, _, ws, rfl, ⟨h.own.1, fun _ => ⟨g, 0, rfl, fun j u hu => ?_⟩⟩, hc, by unfold maxLen at hcm; exact hcm, h.up, h.gn, h.perm, h.mod⟩
    rw [Nat.zero_add]
    exact (own_at h.own hu).1

set_option maxHeartbeats 4000000 in
theorem squares_at (A : Option Addr) (n c dims : Nat) (ps : List TP) (q : TP) (w : World) (hp : PRows w A n ps dims) (hg : ∀ p ∈ ps, p.Gr) (hq : q.Ok w dims) (gq : q.Gr) (hn : n ≤ 2147483647) (hdm : dims ≤ 4) :
    Calls Try.prog 24 #[.slice A n c, .slice q.A dims q.c] w (SqTold n (ps.map fun p => sqx p.xs q.xs dims) w) := by
  have HH := Lib.hid (And.intro hp (And.intro hg (And.intro hq gq)))
  clear hp hg hq gq
  go_enter Try.func24, Try.ntmps24
  go_wp2
  go_loopw [5, 10] (fun v i w' => ∃ (k : Nat) (ws : List Nat), k ≤ n ∧ i = .int .i64 k ∧ Hid (SQ w w' v k ((ps.take k).map fun p => sqx p.xs q.xs dims) ws)) (fun _ i _ => n - (intOf i).toNat)
  case atStart => exact ⟨0, [], Nat.zero_le _, rfl, World.ownsRow_nil _ _ _ _, List.Pairwise.nil, fun y hy => (by cases hy), List.Perm.refl _, Mod.refl _ _⟩
  case round =>
    obtain ⟨k, ws, hk, rfl, HR⟩ := hrel
    by_cases hlt : k < n
    · have hpi := HH.out.1.mod HR.out.mod
      obtain ⟨b, o, v0, e1, e2, c1⟩ := hpi.1.at1 hlt
      have hk2 : k < ps.length := by have := hpi.len; omega
      obtain ⟨p, ep⟩ : ∃ p, p = ps[k] := ⟨_, rfl⟩
      have hpm : p ∈ ps := by rw [ep]; exact List.getElem_mem hk2
      have hTK : ps.take (k + 1) = ps.take k ++ [p] := by rw [List.take_succ_eq_append_getElem hk2, ep]
      have e3 : (ps.map TP.v)[k]? = some p.v := by rw [ep]; simp [hk2]
      rw [e3] at e2
      cases e2
      obtain ⟨hrd, hpl⟩ := hpi.2 p hpm
      have c2 : wr.cell? ⟨b, o + k, none⟩ = some (.slice p.A dims p.c) := by rw [c1, ← hpl]; rfl
      have HS := Lib.hid (And.intro (show p.Ok wr dims from ⟨hpl, hrd.1⟩) (And.intro (HH.out.2.2.1.mod0 HR.out.mod) (And.intro (HH.out.2.1 p hpm) hTK)))
      subst e1
      clear hpi ep hpm hTK e3 c1 hrd hpl hk2
      have i0' : (0 : Int) ≤ k := by omega
      have i1' : (k : Int) < n := by omega
      go_wp2_with (first
        | (go_at_call 51; refine (square_at wr dims p q HS.out.1 HS.out.2.1 HS.out.2.2.1 HH.out.2.2.2 hdm).mono ?_; rintro _ w1 ⟨⟨r, rfl, hr⟩, m1, rfl⟩; have H1 := Lib.hid hr; clear hr)
        | (go_at_call 53; refine (with_at w.heap.size k _ ws r _ (HR.out.own.kept (Mod.grownBy ((Mod.refl _ wr).drewN m1)) (Decidable.em _)) (by omega) (HR.out.mod.drewN m1).size HR.out.gn ⟨_, H1.out⟩).mono ?_; rintro _ w2 hw; obtain ⟨g, cap, ws', rfl, hs⟩ := HR.out.step ((Mod.refl _ wr).drewN m1) H1.out hw; have H2 := Lib.hid hs; clear hs hw))
      go_roundw
      case rel =>
        refine ⟨k + 1, ws', by omega, by go_num, ?_⟩
        have h := H2.out
        rw [HS.out.2.2.2, List.map_append]
        exact h
      case measure => simp [intOf]; omega
    · obtain rfl : k = n := by omega
      go_wp2
      go_ret
      have h := HR.out
      rw [List.take_of_length_le (by have := HH.out.1.len; omega)] at h
      exact h.told
end Go.Proofs.Ytmeooadgdagiiaa
