/- The walk of KNearest. Conditions: as it says. -/
import Derived.Test.YtmeooadgdagiiaaTnNear
import Derived.Test.YtmeooadgdagiiaaTbKb
namespace Go.Proofs.Ytmeooadgdagiiaa
open Go.RowKit Lox
set_option linter.unusedVariables false
attribute [local go_sem] run_store_flt run_store_fn
attribute [local go_sem ↓] Go.wp_at_zero Go.wp_at_succ

theorem catch_idle_kn (p q : Addr) (w : World) :
    CallsD Try.prog 49 #[.pointer (some p), .pointer (some q)] .returning w fun e u' w' => e = .returned (.tuple #[]) ∧ u' = .returning ∧ w' = w := by
  refine callsD_of_wpS Try.func49 rfl fun c₀ cs hu => ?_
  apply wpS_seq
  apply wpS_region
  simp [wpOpsS, go_sem, recoverD, hu, Try.ntmps49, Exit.thenS]
  refine wpS_cond (t := false) (by simp [Act.eval, Array.replicate]) ?_
  simp only [Bool.false_eq_true, if_false]
  refine wpS_of_wp (wp_skip ?_)
  cases c₀
  simp_all [bodyPostS, results, Try.results49]

theorem init_kn (w : World) (H : Nat) (hH : w.heap.size = H) : ∃ W, W = ((w.alloc (.cells #[.slice none 0 0, .float .f64 0] 51)).alloc (.cells #[.bool false] 4)) ∧ W.heap.size = H + 2 ∧ Mod (fun _ => False) w W ∧
    Blk W H 51 [.slice none 0 0, .float .f64 0] ∧ Blk W (H + 1) 4 [.bool false] := by
  have hs : ∀ (w : World) (o : Obj) (k : Nat), w.heap.size = k → (w.alloc o).heap.size = k + 1 := fun w o k h => by rw [World.size_alloc, h]
  have s1 := hs w (.cells #[.slice none 0 0, .float .f64 0] 51) H hH
  have s2 := hs _ (.cells #[.bool false] 4) _ s1
  have nb : ∀ (w : World) (k : Nat) (c : Array Value) (T : TypeId), w.heap.size = k → Blk (w.alloc (.cells c T)) k T c.toList := fun w k c T h => by subst h; exact Blk.new' w c T
  refine ⟨_, rfl, s2, ((Mod.refl _ _).alloc _).alloc _, ?_, ?_⟩
  · exact (nb w H _ _ hH).alloc _
  · exact nb _ _ _ _ s1

theorem same_gr {mt mt' : MT} (h : mt'.T.map TP.xs = mt.T.map TP.xs) (hg : ∀ p ∈ mt.pts, p.Gr) : ∀ p ∈ mt'.pts, p.Gr := by
  intro p hp
  have h1 : p.xs ∈ mt.pts.map TP.xs := by rw [← same_pts h]; exact List.mem_map_of_mem hp
  obtain ⟨p0, h2, h3⟩ := List.mem_map.1 h1
  exact gr_xs (hg p0 h2) h3.symm

theorem same_nil {mt mt' : MT} (h : mt'.T.map TP.xs = mt.T.map TP.xs) (hn : mt ≠ .nil) : mt' ≠ .nil := by
  rintro rfl
  cases mt with
  | nil => exact hn rfl
  | node g p d bx l r => cases h

/-- What KNearest tells. -/
def KnrTold (dims : Nat) (qx : List Nat) (pts : List (List Nat)) (w : World) (e : Ending) (w' : World) : Prop :=
  ∃ (A : Option Addr) (c : Nat) (xs : List Nat) (r : Nat), e = .returned (.tuple #[.agg #[.slice A dims c, .float .f64 r], .bool true]) ∧ Sl w' A dims 1 (flts xs) ∧ xs ∈ pts ∧ Gd 0 r (sqx qx xs dims) ∧ (∀ y ∈ pts, sqx qx xs dims ≤ sqx qx y dims) ∧ (∀ b o, A = some ⟨b, o, none⟩ → w.heap.size ≤ b) ∧ Mod (fun _ => False) w w'

set_option maxRecDepth 100000 in
set_option maxHeartbeats 8000000 in
theorem knearest_at (A Q : Option Addr) (c n cq dims B : Nat) (qx : List Nat) (rs : List KR) (mt : MT) (w : World) (hdm : 0 < dims ∧ dims ≤ 4) (hn : n = rs.length) (hbx : ∀ x ∈ rs, x.mn.xs = [] ∨ (x.mn.xs.length = dims ∧ x.mx.xs.length = dims)) (h0 : mt ≠ .nil) (hK : KS B w dims (.slice A n c) rs) (hS : Seg rs mt 0)
    (hq : Sl w Q dims 1 (flts qx)) (hqg : ∀ x ∈ qx, ∃ n, Wh x n) (hP : ∀ p ∈ mt.pts, p.xs.length = dims ∧ p.Gr) (ho : mt.T.Ord leB) (he : mt.T.Each (fun _ d => d < dims)) :
    Calls Try.prog 22 #[.slice A n c, .slice Q dims cq] w (KnrTold dims qx (mt.pts.map TP.xs) w) := by
  have hmf : ∀ (fn : Fn) (first cap : Array Value) (w : World), (Instr.makeFunc fn first cap).run Try.prog w = .ok (.func fn first cap) w := fun _ _ _ _ => rfl
  have hta := run_assert_pt
  obtain ⟨H, hH⟩ : ∃ H, w.heap.size = H := ⟨_, rfl⟩
  obtain ⟨W3, eW3, z3, m3, q0, q1⟩ := init_kn w H hH
  have hqxl : qx.length = dims := by have := hq.1; simpa [flts] using this
  have KT : Hid (Calls Try.prog 42 #[.slice A n c, .int .i64 0] W3 (TrMade dims n mt W3)) := ktree2_at A c n dims B rs hdm hn hbx mt h0 W3 (hK.mod m3) hS
  have H3 : Hid (W3.heap.size = H + 2 ∧ Mod (fun _ => False) w W3 ∧ Blk W3 H 51 [.slice none 0 0, .float .f64 0] ∧ Blk W3 (H + 1) 4 [.bool false]) := ⟨z3, m3, q0, q1⟩
  have HEW := Lib.hid eW3
  have HP := Lib.hid (And.intro hq (And.intro hqg (And.intro hP (And.intro ho (And.intro he (And.intro h0 hqxl))))))
  clear hK hS hn hbx h0 hq hqg hP ho he z3 m3 q0 q1 eW3 hqxl
  go_enter_defers Try.func22, Try.ntmps22
  have tok1 : True := trivial
  go_wp2_with (first
    | (go_at_call 42; rw [← HEW.out]; refine KT.out.mono ?_; rintro _ w4 ⟨tb, v, mt', rfl, t1, t2, t3, t4, t5⟩; have H4 := Lib.hid (And.intro t1 (And.intro t2 (And.intro t3 (And.intro t4 t5)))); clear t1 t2 t3 t4 t5)
    | (go_at_call 33; have _t := tok1; clear _t tok1; refine (floats_any Q dims cq qx _ (HP.out.1.mod (H3.out.2.1.trans H4.out.2.2.2.2)) (by omega) hdm.1).mono ?_; rintro _ w5 ⟨Q2, cq2, rfl, f1, f2, f3⟩; have H5 := Lib.hid (And.intro f1 (And.intro f2 f3)); clear f1 f2 f3)
    | (go_at_call 50; refine (nearest_at dims tb n v hdm ⟨Q2, cq2, qx⟩ (TP.gr_of HP.out.2.1) mt' w5 (H4.out.1.mod H5.out.2.1 (fun h => h)) (H4.out.2.1.mod H5.out.2.1 (fun _ _ h => h)) ⟨HP.out.2.2.2.2.2.2, by show Sl w5 Q2 qx.length 1 _; rw [HP.out.2.2.2.2.2.2]; exact H5.out.1⟩ (fun p hp => ⟨(H4.out.2.2.2.1 p hp).mod0 H5.out.2.1, same_gr H4.out.2.2.1 (fun p hp => (HP.out.2.2.1 p hp).2) p hp⟩) (same_ord H4.out.2.2.1 HP.out.2.2.2.1) (same_each H4.out.2.2.1 HP.out.2.2.2.2.1) (same_nil H4.out.2.2.1 HP.out.2.2.2.2.2.1)).mono ?_; rintro _ w6 ⟨p, r, rfl, n1, n2, n3, n4⟩; have H6 := Lib.hid (And.intro n1 (And.intro n2 (And.intro n3 n4))); clear n1 n2 n3 n4)
    | (go_at_call 33; refine (floats_any p.A dims p.c p.xs _ (by have h := (H4.out.2.2.2.1 p H6.out.1).mod0 (H5.out.2.1.trans H6.out.2.2.2); have h2 := h.2; rw [h.1] at h2; exact h2) (by omega) hdm.1).mono ?_; rintro _ w7 ⟨A7, c7, rfl, g1, g2, g3⟩; have hm7 : Mod (fun _ => False) W3 w7 := ((H4.out.2.2.2.2.trans H5.out.2.1).trans H6.out.2.2.2).trans g2; have b0 := H3.out.2.2.1.mod hm7 (fun h => h); have b1 := H3.out.2.2.2.mod hm7 (fun h => h); have y0 := b0.at (i := 0) rfl; have y1 := b0.at (i := 1) rfl; have yb := b1.at (i := 0) rfl; have z0 := b0.frozen 0; have z1 := b0.frozen 1; have zb := b1.frozen 0; have H7 := Lib.hid (And.intro g1 (And.intro g2 (And.intro g3 (And.intro hm7 (And.intro b0 b1))))); clear g1 g2 g3 hm7 b0 b1))
  obtain ⟨W8, eW8⟩ : ∃ W8, W8 = ((w7.setCell ⟨H, 0, none⟩ (.slice A7 dims c7)).setCell ⟨H, 1, none⟩ (.float .f64 r)).setCell ⟨H + 1, 0, none⟩ (.bool true) := ⟨_, rfl⟩
  rw [← eW8]
  obtain ⟨g1, g2, g3, g4, g5, g6⟩ := H7.out
  have s7 : H + 2 ≤ w6.heap.size := by
    have h1 := ((H4.out.2.2.2.2.trans H5.out.2.1).trans H6.out.2.2.2).size
    have h2 := H3.out.1
    omega
  have b0 : Blk W8 H 51 [.slice A7 dims c7, .float .f64 r] := by
    rw [eW8]
    exact ((g5.set 0 (.slice A7 dims c7)).set 1 (.float .f64 r)).other (a := ⟨H + 1, 0, none⟩) (.bool true) (by show H + 1 ≠ H; omega)
  have b1 : Blk W8 (H + 1) 4 [.bool true] := by
    rw [eW8]
    exact ((g6.other (a := ⟨H, 0, none⟩) (.slice A7 dims c7) (by show H ≠ H + 1; omega)).other (a := ⟨H, 1, none⟩) (.float .f64 r) (by show H ≠ H + 1; omega)).set 0 (.bool true)
  have hm8 : Mod (fun _ => False) w W8 := by
    rw [eW8]
    exact (((H3.out.2.1.trans g4).set (p := ⟨H, 0, none⟩) (.inr (by show w.heap.size ≤ H; omega)) _).set (p := ⟨H, 1, none⟩) (.inr (by show w.heap.size ≤ H; omega)) _).set (p := ⟨H + 1, 0, none⟩) (.inr (by show w.heap.size ≤ H + 1; omega)) _
  have hs8 : Sl W8 A7 dims 1 (flts p.xs) := by
    rw [eW8]
    exact sl_set (sl_set (sl_set g1 (fun b o e => by have := g3 b o e; show b ≠ H; omega) _) (fun b o e => by have := g3 b o e; show b ≠ H; omega) _) (fun b o e => by have := g3 b o e; show b ≠ H + 1; omega) _
  have hfin : KnrTold dims qx (mt.pts.map TP.xs) w (.returned (.tuple #[.agg #[.slice A7 dims c7, .float .f64 r], .bool true])) W8 := by
    refine ⟨A7, c7, p.xs, r, rfl, hs8, ?_, H6.out.2.1, fun y hy => ?_, fun b o e => by have := g3 b o e; omega, hm8⟩
    · rw [← same_pts H4.out.2.2.1]; exact List.mem_map_of_mem H6.out.1
    · rw [← same_pts H4.out.2.2.1] at hy
      obtain ⟨y', hy', rfl⟩ := List.mem_map.1 hy
      exact H6.out.2.2.1 y' hy'
  have r0 := b0.at (i := 0) rfl
  have r1 := b0.at (i := 1) rfl
  have r2 := b1.at (i := 0) rfl
  have HFIN := Lib.hid hfin
  have HRR := Lib.hid (And.intro r0 (And.intro r1 r2))
  clear hfin r0 r1 r2 eW8 b0 b1 hm8 hs8 g1 g2 g3 g4 g5 g6 y0 y1 yb z0 z1 zb
  refine leaves_cons (f := 49) (args := #[.pointer (some ⟨H, 0, none⟩), .pointer (some ⟨H + 1, 0, none⟩)]) (by simp) (by simp [go_sem]) ?_
  refine (catch_idle_kn ⟨H, 0, none⟩ ⟨H + 1, 0, none⟩ _).mono ?_
  rintro e u' w'' ⟨rfl, rfl, rfl⟩
  obtain ⟨r0, r1, r2⟩ := HRR.out
  simp [Leaves, settle, results, Try.results22, go_sem, r0, r1, r2]
  exact HFIN.out
end Go.Proofs.Ytmeooadgdagiiaa
