/- Steps of a proof, one behind another: k-d trees in memory, and the walk that makes one. The memory of the walk's operation: the points and the depths that it has been told. The walk that makes a k-d tree of nodes that are written down. The rows that KBuild writes are a k-d tree, as the reference looks at them. Conditions: as each theorem says. -/
import Derived.Test.YtmeooadgdagiiaaMr14
import Derived.Deep.AppendLies
import Derived.Deep.RegionLaw
import Derived.Deep.DrawnRows
import Derived.Deep.DeepCutAuto
import Derived.Deep.RegionHeld3

namespace Go.Proofs.Ytmeooadgdagiiaa.W
open Go.RowKit Lox
set_option linter.unusedVariables false
attribute [local go_sem] run_store_flt run_store_fn
attribute [local go_sem ↓] Go.wp_at_zero Go.wp_at_succ

/-- A tree as it lies in memory: of each node its block, the slice of its point, the point's numbers, the radius. -/
inductive BT where
  | nil
  | node (g : Nat) (A : Option Addr) (m c : Nat) (xs : List Nat) (r : Int) (l rt : BT)

/-- In world w, at v, such a tree stands, all of it made from block B on. -/
def BT.In (B : Nat) (w : World) : BT → Value → Prop
  | .nil, v => v = .pointer none
  | .node g A m c xs r l rt, v => v = .pointer (some ⟨g, 0, none⟩) ∧ B ≤ g ∧ (0 < m ∧ m ≤ 1099511627776) ∧ Sl w A m 1 (flts xs) ∧ (∀ b o, A = some ⟨b, o, none⟩ → B ≤ b) ∧
      ∃ lv rv bq, Blk w g 122 [.iface 73 (.slice A m c), .int .i64 r, lv, rv, .pointer bq] ∧ l.In B w lv ∧ rt.In B w rv

/-- The points in order, each with its depth. -/
def BT.visit : BT → Nat → List (List Nat × Int)
  | .nil, _ => []
  | .node _ _ _ _ xs _ l rt, d => l.visit (d + 1) ++ ((xs, (d : Int)) :: rt.visit (d + 1))

theorem BT.In.keep {B B' : Nat} {w w' : World} (hB : B' ≤ B) (hk : ∀ k, B ≤ k → k < w.heap.size → w'.heap[k]? = w.heap[k]?) : ∀ {t : BT} {v : Value}, t.In B w v → t.In B' w' v := by
  intro t
  induction t with
  | nil => intro v h; exact h
  | node g A m c xs r l rt ihl ihr =>
    intro v h
    obtain ⟨e, hg, hm, hs, hA, lv, rv, bq, hb, hl, hr⟩ := h
    refine ⟨e, by omega, hm, ⟨hs.1, fun h0 => ?_⟩, fun b o e => by have := hA b o e; omega, lv, rv, bq, ?_, ihl hl, ihr hr⟩
    · obtain ⟨b, o, e, hc⟩ := hs.2 h0
      exact ⟨b, o, e, fun j u hu => (World.cell?_of_block (hk b (hA b o e) (lt_of_cell (hc j u hu)))).trans (hc j u hu)⟩
    · exact hb.keep hg hk

theorem BT.In.ptr {B : Nat} {w : World} {t : BT} {v : Value} (h : t.In B w v) : ∃ q, v = .pointer q := by
  cases t with
  | nil => exact ⟨_, h⟩
  | node g A m c xs r l rt => exact ⟨_, h.1⟩

theorem BT.In.mod {B B' : Nat} {w w' : World} {t : BT} {v : Value} (h : t.In B w v) (hB : B' ≤ B) (hm : Mod (fun _ => False) w w') : t.In B' w' v := h.keep hB fun k _ hk => hm.block k hk (fun h => h)

theorem BT.In.set {B B' : Nat} {w : World} {t : BT} {v : Value} (h : t.In B w v) (hB : B' ≤ B) {a : Addr} (ha : a.block < B) (u : Value) : t.In B' (w.setCell a u) v := h.keep hB fun k hk _ => Below.heap_setCell _ _ _ _ (by omega)

theorem sl_set {w : World} {A : Option Addr} {n : Nat} {xs : List Value} (h : Sl w A n 1 xs) {a : Addr} (hne : ∀ b o, A = some ⟨b, o, none⟩ → b ≠ a.block) (u : Value) : Sl (w.setCell a u) A n 1 xs := by
  refine ⟨h.1, fun h0 => ?_⟩
  obtain ⟨b, o, e, hc⟩ := h.2 h0
  exact ⟨b, o, e, fun j v hv => (World.cell?_of_block (w := w) (Below.heap_setCell _ _ _ _ (hne b o e))).trans (hc j v hv)⟩

theorem chl_up {C F : Nat → Int} {n : Nat} {c above : Int} {d : Nat} (h0 : -1 ≤ above) (h : above < c) : chl C F n ((c.toNat : Nat) : Int) (-1) d = chl C F n c above d := by
  have e : ((c.toNat : Nat) : Int) = c := by omega
  rw [e]
  unfold chl
  by_cases hc : c < n
  · rw [if_pos ⟨by omega, hc⟩, if_pos ⟨h, hc⟩]
  · rw [if_neg (fun h => hc h.2), if_neg (fun h => hc h.2)]

def PX (xs : List KN) (k : Int) : List Nat := ((xs[k.toNat]?).map fun x => x.p.xs).getD []

/-- The tree that hangs on node i has been made. -/
def TreeTold (xs : List KN) (n : Nat) (i : Nat) (w : World) (e : Ending) (w' : World) : Prop :=
  ∃ (t : BT) (v : Value), e = .returned v ∧ t.In w.heap.size w' v ∧ Mod (fun _ => False) w w' ∧ ∀ d : Nat, t.visit d = (chl (KC xs) (KF xs) n i (-1) d).map fun p => (PX xs p.1, p.2)

set_option maxHeartbeats 2000000 in
theorem kbox_any (A B : Option Addr) (n m c c' : Nat) (xs ys : List Nat) (w : World) (ha : Sl w A n 1 (flts xs)) (hb : Sl w B m 1 (flts ys)) (h : n = 0 ∨ (0 < n ∧ n ≤ 4 ∧ 0 < m ∧ m ≤ 4)) :
    Calls Try.prog 47 #[.slice A n c, .slice B m c'] w fun e w' => (∃ q, e = .returned (.pointer q)) ∧ Mod (fun _ => False) w w' := by
  have H : Hid (Sl w A n 1 (flts xs) ∧ Sl w B m 1 (flts ys)) := ⟨ha, hb⟩
  clear ha hb
  rcases h with h | h
  · subst h
    go_enter Try.func47, Try.ntmps47
    go_wp2
    go_ret
    exact ⟨⟨_, rfl⟩, Mod.refl _ _⟩
  · have hn0 : ((n : Int) == 0) = false := by
      have : (n : Int) ≠ 0 := by omega
      simpa using this
    go_enter Try.func47, Try.ntmps47
    go_wp2_with (first
      | (go_at_call_of 33 (Value.slice A n c); refine (floats_any A n c xs _ H.out.1 (by omega) h.1).mono ?_; rintro _ w2 ⟨A2, c2, rfl, hs2, hm2, hb2⟩)
      | (go_at_call_of 33 (Value.slice B m c'); refine (floats_any B m c' ys _ (H.out.2.mod hm2) (by omega) h.2.2.1).mono ?_; rintro _ w3 ⟨A3, c3, rfl, hs3, hm3, hb3⟩))
    go_ret
    exact ⟨⟨_, rfl⟩, (hm2.trans hm3).alloc _⟩

set_option maxHeartbeats 4000000 in
theorem knode_at (T : Option Addr) (c n : Nat) (xs : List KN) (hn : n = xs.length) (hP : ∀ x ∈ xs, (0 < x.p.n ∧ x.p.n ≤ 4) ∧ (x.mn.n = 0 ∨ (0 < x.mn.n ∧ x.mn.n ≤ 4 ∧ 0 < x.mx.n ∧ x.mx.n ≤ 4))) (fuel : Nat) :
    ∀ (i : Nat) (I : Int) (w : World), I = i → KNodes w T xs → n ≤ i + fuel → Calls Try.prog 66 #[.slice T n c, .int .i64 I] w (TreeTold xs n i w) := by
  induction fuel with
  | zero =>
    intro i I w hI hN hf
    subst hI
    have hi : n ≤ i := by omega
    clear hf hN
    go_enter Try.func66, Try.ntmps66
    go_wp2
    go_ret
    exact ⟨.nil, _, rfl, rfl, Mod.refl _ _, fun d => by rw [chl_none (by omega)]; rfl⟩
  | succ fuel ih =>
    intro i I w hI hN hf
    subst hI
    by_cases hi : n ≤ i
    · clear hf hN ih
      go_enter Try.func66, Try.ntmps66
      go_wp2
      go_ret
      exact ⟨.nil, _, rfl, rfl, Mod.refl _ _, fun d => by rw [chl_none (by omega)]; rfl⟩
    · have IH := Lib.hid ih
      have HN := Lib.hid hN
      clear ih
      have hnl := hN.1
      rw [← hn] at hnl
      obtain ⟨b, o, e, hc⟩ := hN.2.1 (by omega)
      have hk2 : i < xs.length := by omega
      have ex : xs[i]? = some xs[i] := List.getElem?_eq_getElem hk2
      have hx := hc i _ ex
      have hPx := hP _ (List.getElem_mem hk2)
      have hOk := hN.2.2 _ (List.getElem_mem hk2)
      generalize xs[i] = x at hx ex hPx hOk
      have hVC : KC xs i = x.c := by simp [KC, ex]
      have hVF : KF xs i = x.f := by simp [KF, ex]
      have hPX : PX xs (i : Int) = x.p.xs := by simp [PX, ex]
      clear hc hN hk2
      have HN2 := Lib.hid (And.intro hn hP)
      clear hn hP
      obtain ⟨⟨A, m, c', ys⟩, r, cl, fu, ⟨A1, n1, k1, ys1⟩, ⟨A3, n3, k3, ys3⟩⟩ := x
      have hSl : Sl w A m 1 (flts ys) ∧ Sl w A1 n1 1 (flts ys1) ∧ Sl w A3 n3 1 (flts ys3) := ⟨hOk.1.1, hOk.2.1.1, hOk.2.2.1⟩
      simp only at hPx hVC hVF hPX
      have HS := Lib.hid hSl
      obtain ⟨hPx, hPb⟩ := hPx
      have HPB := Lib.hid hPb
      clear hPb
      obtain ⟨c0, c1, c2, c3, c4, c5⟩ := hx
      simp only [Pt.v] at c0 c1 c2 c3 c4 c5
      subst e
      clear hSl hOk
      go_enter Try.func66, Try.ntmps66
      go_wp2_with fail
      go_cut [6] from 19 to 31 (fun p wx => ∃ g A2 c2 bq, p = .pointer (some ⟨g, 0, none⟩) ∧ w.heap.size + 1 ≤ g ∧ Blk wx g 122 [.iface 73 (.slice A2 m c2), .int .i64 r, .pointer none, .pointer none, .pointer bq] ∧ Sl wx A2 m 1 (flts ys) ∧ (∀ b o, A2 = some ⟨b, o, none⟩ → w.heap.size ≤ b ∧ b ≠ g) ∧ Mod (fun _ => False) (w.alloc (.cells #[.slice A m c', .int .i64 r, .int .i64 cl, .int .i64 fu, .slice A1 n1 k1, .slice A3 n3 k3] 39)) wx)
      case first =>
        clear c0 c1 c2 c3 c4 c5
        have B0 := (Blk.new' w #[.slice A m c', .int .i64 r, .int .i64 cl, .int .i64 fu, .slice A1 n1 k1, .slice A3 n3 k3] 39).drew
        have hb0 := B0.lt
        have K4 : ∀ w' : World, Blk w' w.heap.size 39 [.slice A m c', .int .i64 r, .int .i64 cl, .int .i64 fu, .slice A1 n1 k1, .slice A3 n3 k3] → (fun w' => w'.cell? ⟨w.heap.size, 0, none⟩ = some (.slice A m c') ∧ w'.cell? ⟨w.heap.size, 1, none⟩ = some (.int .i64 r) ∧ w'.cell? ⟨w.heap.size, 4, none⟩ = some (.slice A1 n1 k1) ∧ w'.cell? ⟨w.heap.size, 5, none⟩ = some (.slice A3 n3 k3)) w' := fun w' h => ⟨h.at (i := 0) rfl, h.at (i := 1) rfl, h.at (i := 4) rfl, h.at (i := 5) rfl⟩
        have HB0 := Lib.hid B0
        have HK4 := Lib.hid K4
        clear B0 K4
        go_region_held3 (fun w' => w'.cell? ⟨w.heap.size, 0, none⟩ = some (.slice A m c') ∧ w'.cell? ⟨w.heap.size, 1, none⟩ = some (.int .i64 r) ∧ w'.cell? ⟨w.heap.size, 4, none⟩ = some (.slice A1 n1 k1) ∧ w'.cell? ⟨w.heap.size, 5, none⟩ = some (.slice A3 n3 k3)) (first | exact HK4.out _ HB0.out | exact HK4.out _ (HB0.out.mod hma (fun h => h)) | exact HK4.out _ ((HB0.out.mod hma (fun h => h)).alloc _))
          (first
            | (go_at_call 33; first
               | (refine (floats_any A m c' ys _ ((HS.out.1.alloc _).drew) (by omega) hPx.1).mono ?_; rintro _ w2 ⟨A2, cc2, rfl, hs2, hma, hb2⟩; have hsz := hma.size; rw [show ∀ x : World, x.drew.heap.size = x.heap.size from fun _ => rfl, World.size_alloc] at hsz; have hb2' : ∀ b o, A2 = some ⟨b, o, none⟩ → w.heap.size + 1 ≤ b := fun b o e => by have := hb2 b o e; rw [show ∀ x : World, x.drew.heap.size = x.heap.size from fun _ => rfl, World.size_alloc] at this; exact this)
               | (refine (floats_any A m c' ys _ (((HS.out.1.alloc _).drew).mod hma) (by omega) hPx.1).mono ?_; rintro _ w2 ⟨A2, cc2, rfl, hs2, hmb, hb2⟩; have hmc := hma; clear hma; have hma := hmc.trans hmb; have hsz := hma.size; rw [show ∀ x : World, x.drew.heap.size = x.heap.size from fun _ => rfl, World.size_alloc] at hsz; have hb2' : ∀ b o, A2 = some ⟨b, o, none⟩ → w.heap.size + 1 ≤ b := fun b o e => by have := hb2 b o e; have := hmc.size; rw [show ∀ x : World, x.drew.heap.size = x.heap.size from fun _ => rfl, World.size_alloc] at this; omega))
            | (go_at_call 47; first
               | (refine (kbox_any A1 A3 n1 n3 k1 k3 ys1 ys3 _ ((HS.out.2.1.alloc _).drew) ((HS.out.2.2.alloc _).drew) HPB.out).mono ?_; rintro _ w4 ⟨⟨bq, rfl⟩, hma⟩)
               | (refine (kbox_any A1 A3 n1 n3 k1 k3 ys1 ys3 _ (((HS.out.2.1.alloc _).drew).mod hma) (((HS.out.2.2.alloc _).drew).mod hma) HPB.out).mono ?_; rintro _ w4 ⟨⟨bq, rfl⟩, hmb⟩; have hsx := hs2; clear hs2; have hs2 := hsx.mod hmb; have hmc := hma; clear hma; have hma := hmc.trans hmb; have hsz := hma.size; rw [show ∀ x : World, x.drew.heap.size = x.heap.size from fun _ => rfl, World.size_alloc] at hsz)))
        all_goals
          go_wp2_with fail
          go_meet
          exact ⟨_, A2, cc2, bq, rfl, (by omega), Blk.new' _ _ _, hs2.alloc _, fun b o e => ⟨(by have := hb2' b o e; omega), (by have := hs2.far (by omega) hPx.1 b o e; omega)⟩, (((Mod.refl _ _).drew).trans hma).alloc _⟩
      case rest =>
        obtain ⟨g, A2, C2, bq, rfl, hg, hb, hs2, hA2, hm⟩ := hcut
        have hB0 : Blk wc w.heap.size 39 [.slice A m c', .int .i64 r, .int .i64 cl, .int .i64 fu, .slice A1 n1 k1, .slice A3 n3 k3] := (Blk.new' w #[.slice A m c', .int .i64 r, .int .i64 cl, .int .i64 fu, .slice A1 n1 k1, .slice A3 n3 k3] 39).mod hm (fun h => h)
        have hmw : Mod (fun _ => False) w wc := ((Mod.refl _ _).alloc _).trans hm
        have hgl := hb.lt
        have j2 := hB0.at (i := 2) rfl
        have j3 := hB0.at (i := 3) rfl
        clear hm
        have K : Hid (Blk wc g 122 [.iface 73 (.slice A2 m C2), .int .i64 r, .pointer none, .pointer none, .pointer bq] ∧ Sl wc A2 m 1 (flts ys) ∧ (∀ b o, A2 = some ⟨b, o, none⟩ → w.heap.size ≤ b ∧ b ≠ g) ∧ Blk wc w.heap.size 39 [.slice A m c', .int .i64 r, .int .i64 cl, .int .i64 fu, .slice A1 n1 k1, .slice A3 n3 k3] ∧ Mod (fun _ => False) w wc) := ⟨hb, hs2, hA2, hB0, hmw⟩
        clear hb hs2 hA2 hB0 hmw
        go_upto_if 35 with fail
        go_cut [] from 35 to 42 (fun wx => ∃ (lv : Value) (t1 : BT), Blk wx g 122 [.iface 73 (.slice A2 m C2), .int .i64 r, lv, .pointer none, .pointer bq] ∧ t1.In (g + 1) wx lv ∧ Blk wx w.heap.size 39 [.slice A m c', .int .i64 r, .int .i64 cl, .int .i64 fu, .slice A1 n1 k1, .slice A3 n3 k3] ∧ Sl wx A2 m 1 (flts ys) ∧ Mod (fun _ => False) w wx ∧ ∀ d : Nat, t1.visit d = (chl (KC xs) (KF xs) n cl i d).map fun p => (PX xs p.1, p.2))
        case first =>
          by_cases h1 : (i : Int) < cl
          · go_wp2_with (go_at_call 66; refine (IH.out cl.toNat cl wc (by omega) (HN.out.mod K.out.2.2.2.2) (by omega)).mono ?_; rintro _ w3 ⟨t1, lv, rfl, ht1, hm1, hv1⟩; obtain ⟨q1, rfl⟩ := ht1.ptr; have y2 : w3.cell? ⟨g, 2, none⟩ = some (.pointer none) := ((K.out.1.mod hm1 (fun h => h)).at (i := 2) rfl); have z2 : w3.frozen? ⟨g, 2, none⟩ = false := ((K.out.1.mod hm1 (fun h => h)).frozen 2))
            go_meet
            have b3 := K.out.1.mod hm1 (fun h => h)
            have hmw : Mod (fun _ => False) w w3 := K.out.2.2.2.2.trans hm1
            exact ⟨.pointer q1, t1, b3.set 2 (.pointer q1), ht1.set (by omega) hgl _, (K.out.2.2.2.1.mod hm1 (fun h => h)).other _ (by show g ≠ w.heap.size; omega), sl_set (K.out.2.1.mod hm1) (fun b o e => (K.out.2.2.1 b o e).2) _, hmw.set (.inr (by show w.heap.size ≤ g; omega)) _, fun d => (hv1 d).trans (by rw [chl_up (above := (i : Int)) (c := cl) (by omega) h1])⟩
          · go_wp2_with fail
            go_meet
            exact ⟨_, .nil, K.out.1, rfl, K.out.2.2.2.1, K.out.2.1, K.out.2.2.2.2, fun d => by rw [chl_none (by omega)]; rfl⟩
        case rest =>
          obtain ⟨lv, t1, hb1, ht1, hB1, hs1, hm1, hv1⟩ := hcut
          have q1 := hB1.at (i := 3) rfl
          have K2 : Hid (Blk wc g 122 [.iface 73 (.slice A2 m C2), .int .i64 r, lv, .pointer none, .pointer bq] ∧ t1.In (g + 1) wc lv ∧ Sl wc A2 m 1 (flts ys) ∧ Mod (fun _ => False) w wc ∧ ∀ d : Nat, t1.visit d = (chl (KC xs) (KF xs) n cl i d).map fun p => (PX xs p.1, p.2)) := ⟨hb1, ht1, hs1, hm1, hv1⟩
          have hgl2 := hb1.lt
          clear hb1 ht1 hB1 hs1 hm1 hv1 j2 j3
          have hlist : ∀ d : Nat, (chl (KC xs) (KF xs) n i (-1) d).map (fun p => (PX xs p.1, p.2)) = (chl (KC xs) (KF xs) n cl i (d + 1)).map (fun p => (PX xs p.1, p.2)) ++ ((ys, (d : Int)) :: (chl (KC xs) (KF xs) n fu i (d + 1)).map fun p => (PX xs p.1, p.2)) := fun d => by
            rw [chl_node (by omega) (by omega), hVC, hVF]
            simp [hPX]
          have HL := Lib.hid hlist
          clear hlist
          by_cases h2 : (i : Int) < fu
          · go_wp2_with (go_at_call 66; refine (IH.out fu.toNat fu wc (by omega) (HN.out.mod K2.out.2.2.2.1) (by omega)).mono ?_; rintro _ w3 ⟨t2, rv, rfl, ht2, hm2, hv2⟩; obtain ⟨q2, rfl⟩ := ht2.ptr; have y2 : w3.cell? ⟨g, 3, none⟩ = some (.pointer none) := ((K2.out.1.mod hm2 (fun h => h)).at (i := 3) rfl); have z2 : w3.frozen? ⟨g, 3, none⟩ = false := ((K2.out.1.mod hm2 (fun h => h)).frozen 3))
            go_ret
            obtain ⟨e1, e2, e3, e4, e5⟩ := K2.out
            exact ⟨.node g A2 m C2 ys r t1 t2, _, rfl, ⟨rfl, by omega, ⟨hPx.1, by omega⟩, sl_set (e3.mod hm2) (fun b o e => (K.out.2.2.1 b o e).2) _, fun b o e => (K.out.2.2.1 b o e).1, lv, .pointer q2, bq, (e1.mod hm2 (fun h => h)).set 3 (.pointer q2), (e2.mod (Nat.le_refl _) hm2).set (by omega) (by show g < g + 1; omega) _, ht2.set (by have := e4.size; omega) hgl2 _⟩, (e4.trans hm2).set (.inr (by show w.heap.size ≤ g; omega)) _, fun d => by
              rw [HL.out d, BT.visit, e5, hv2, chl_up (above := (i : Int)) (c := fu) (by omega) h2]⟩
          · go_wp2_with fail
            go_ret
            obtain ⟨e1, e2, e3, e4, e5⟩ := K2.out
            exact ⟨.node g A2 m C2 ys r t1 .nil, _, rfl, ⟨rfl, by omega, ⟨hPx.1, by omega⟩, e3, fun b o e => (K.out.2.2.1 b o e).1, lv, _, bq, e1, e2.mod (by omega) (Mod.refl _ _), rfl⟩, e4, fun d => by
              rw [HL.out d, BT.visit, e5, chl_none (c := fu) (by omega)]; rfl⟩
end Go.Proofs.Ytmeooadgdagiiaa.W

namespace Go.Proofs.Ytmeooadgdagiiaa.W
open Go.RowKit Lox
set_option linter.unusedVariables false

/-- The points of a list, each in memory of its own. -/
def Pts (B : Nat) (w : World) (v1 v2 : Value) (gs : List Value) (ls : List (List Nat)) : Prop :=
  gs.length = ls.length ∧ ∀ (i : Nat) (v : Value) (xs : List Nat), gs[i]? = some v → ls[i]? = some xs → ∃ A n c, v = .slice A n c ∧ n ≤ 1099511627776 ∧ Sl w A n 1 (flts xs) ∧ ∀ b o, A = some ⟨b, o, none⟩ → (B ≤ b ∧ b < w.heap.size) ∧ v1.ownBlock ≠ some b ∧ v2.ownBlock ≠ some b

/-- The memory: wB is the world where the walk began, H where the variables lie. -/
structure DW (H : Nat) (wB w : World) (ls : List (List Nat)) (ds : List Int) : Prop where
  mod : Mod (fun k => k = H + 1 ∨ k = H + 2) wB w
  low : H + 3 ≤ wB.heap.size
  rows : ∃ v1 v2 gs, Blk w (H + 1) 22 [v1] ∧ Blk w (H + 2) 23 [v2] ∧ w.ownsRow wB.heap.size 26 1 v1 ls.length gs ∧ w.ownsRow wB.heap.size 3 1 v2 ds.length (ints ds) ∧
    Pts wB.heap.size w v1 v2 gs ls ∧ ∀ k, v1.ownBlock = some k → v2.ownBlock ≠ some k

theorem own_ge' {w : World} {B : Nat} {e : TypeId} {size : Nat} {v : Value} {n : Nat} {xs : List Value} {k : Nat} (h : w.ownsRow B e size v n xs) (hk : v.ownBlock = some k) : B ≤ k ∧ k < w.heap.size := by
  rcases h.2 with ⟨rfl, _⟩ | ⟨g, cap, cur, rfl, hb, hg, _⟩
  · simp [Value.ownBlock] at hk
  · simp only [Value.ownBlock, Option.some.injEq] at hk
    subst hk
    exact ⟨hb, (Array.getElem?_eq_some_iff.1 hg).1⟩

section
variable {H : Nat} {wB w w1 w3 : World} {ls : List (List Nat)} {ds : List Int}

theorem sl_keep2 {A : Option Addr} {n : Nat} {xs : List Value} {w w' : World} (h : Sl w A n 1 xs) (hk : ∀ b o, A = some ⟨b, o, none⟩ → b < w.heap.size → w'.heap[b]? = w.heap[b]?) : Sl w' A n 1 xs := by
  refine ⟨h.1, fun h0 => ?_⟩
  obtain ⟨b, o, e, hc⟩ := h.2 h0
  exact ⟨b, o, e, fun j v hv => (World.cell?_of_block (hk b o e (lt_of_cell (hc j v hv)))).trans (hc j v hv)⟩

theorem DW.push1 (h : DW H wB w ls ds) {v1 v2 : Value} {gs : List Value} (b1 : Blk w (H + 1) 22 [v1]) (b2 : Blk w (H + 2) 23 [v2]) (o1 : w.ownsRow wB.heap.size 26 1 v1 ls.length gs) (o2 : w.ownsRow wB.heap.size 3 1 v2 ds.length (ints ds))
    (hp : Pts wB.heap.size w v1 v2 gs ls) (hne : ∀ k, v1.ownBlock = some k → v2.ownBlock ≠ some k) {A : Option Addr} {m c : Nat} {xs : List Nat} {o : Obj} {g cap : Nat} (hm : Mod (fun _ => False) w w1) (hs : Sl w1 A m 1 (flts xs)) (hA : ∀ b o, A = some ⟨b, o, none⟩ → w.heap.size ≤ b ∧ b < w1.heap.size) (hml : m ≤ 1099511627776)
    (hown : w3.ownsRow wB.heap.size 26 1 (.slice (some ⟨g, 0, none⟩) (ls.length + 1) cap) (ls.length + 1) (gs ++ [.slice A m c])) (hg : (w1.alloc o).grownBy w3 v1.ownBlock) (hat : v1.ownBlock = some g ∨ g = w1.heap.size + 1) :
    DW H wB (w3.setCell ⟨H + 1, 0, none⟩ (.slice (some ⟨g, 0, none⟩) (ls.length + 1) cap)) (ls ++ [xs]) ds := by
  have hlow := h.low
  have hBw := h.mod.size
  have hs1 := hm.size
  have hal : (w1.alloc o).heap.size = w1.heap.size + 1 := World.size_alloc _ _
  have hgs := hg.size
  have hg2 : v2.ownBlock ≠ some g := fun e => by
    rcases hat with hat | hat
    · exact hne g hat e
    · have := (own_ge' o2 e).2; omega
  have keep : ∀ k, k < w.heap.size → k ≠ H + 1 → v1.ownBlock ≠ some k → (w3.setCell ⟨H + 1, 0, none⟩ (.slice (some ⟨g, 0, none⟩) (ls.length + 1) cap)).heap[k]? = w.heap[k]? := fun k hk h1 h2 =>
    (Below.heap_setCell _ _ _ _ h1).trans ((hg.block k (by omega) (fun e => h2 e.symm)).trans ((Below.heap_alloc _ _ _ (by omega)).trans (hm.block k hk (fun h => h))))
  have n1 : v1.ownBlock ≠ some (H + 1) := fun e => by have := (own_ge' o1 e).1; omega
  have n2 : v1.ownBlock ≠ some (H + 2) := fun e => by have := (own_ge' o1 e).1; omega
  refine ⟨⟨?_, ?_, ?_, ?_, fun k hk hn => ?_⟩, hlow, .slice (some ⟨g, 0, none⟩) (ls.length + 1) cap, v2, gs ++ [.slice A m c], ?_, ?_, ?_, ?_, ⟨by simp [hp.1], fun i v ys hv hy => ?_⟩, fun k hk => ?_⟩
  · exact (hg.os.trans hm.os).trans h.mod.os
  · exact (hg.tape.trans hm.tape).trans h.mod.tape
  · exact (hg.output.trans hm.output).trans h.mod.output
  · simp [World.setCell]; omega
  · exact (keep k (by omega) (fun e => hn (.inl e)) (fun e => by have := (own_ge' o1 e).1; omega)).trans (h.mod.block k hk hn)
  · have hb : Blk w3 (H + 1) 22 [v1] := ((b1.mod hm (fun h => h)).alloc o).grown hg (fun e => n1 e.symm)
    exact hb.set 0 _
  · have hb : Blk w3 (H + 2) 23 [v2] := ((b2.mod hm (fun h => h)).alloc o).grown hg (fun e => n2 e.symm)
    exact hb.other _ (by show H + 1 ≠ H + 2; omega)
  · rw [List.length_append]
    exact owns_keep hown fun k hk _ => Below.heap_setCell _ _ _ _ (by show k ≠ H + 1; omega)
  · exact ⟨o2.1, o2.2.imp (fun h => h) fun ⟨g', cap', cur, e, hb, hgg, rest⟩ => ⟨g', cap', cur, e, hb, by
      rw [keep g' (Array.getElem?_eq_some_iff.1 hgg).1 (by omega) (fun e' => hne g' e' (by rw [e]; rfl))]; exact hgg, rest⟩⟩
  · rcases Nat.lt_or_ge i gs.length with hi | hi
    · rw [List.getElem?_append_left hi] at hv
      rw [List.getElem?_append_left (by rw [← hp.1]; exact hi)] at hy
      obtain ⟨A', n', c', e, hn', hs', hA'⟩ := hp.2 i v ys hv hy
      refine ⟨A', n', c', e, hn', sl_keep2 hs' fun b o e hb => keep b hb (by have := (hA' b o e).1.1; omega) (hA' b o e).2.1, fun b o e => ⟨⟨(hA' b o e).1.1, by have := (hA' b o e).1.2; simp [World.setCell]; omega⟩, fun e2 => ?_, (hA' b o e).2.2⟩⟩
      simp only [Value.ownBlock, Option.some.injEq] at e2
      subst e2
      rcases hat with hat | hat
      · exact (hA' _ o e).2.1 hat
      · have := (hA' _ o e).1.2; omega
    · rw [List.getElem?_append_right hi] at hv
      rw [List.getElem?_append_right (by rw [← hp.1]; exact hi)] at hy
      have h0 : i - gs.length = 0 := by
        rcases Nat.eq_zero_or_pos (i - gs.length) with h0 | h0
        · exact h0
        · rw [List.getElem?_eq_none (by simp; omega)] at hv; cases hv
      rw [h0] at hv
      rw [← hp.1, h0] at hy
      simp at hv hy
      subst hv hy
      refine ⟨A, m, c, rfl, hml, sl_keep2 hs fun b o e hb => (Below.heap_setCell _ _ _ _ (by have := (hA b o e).1; show b ≠ H + 1; omega)).trans ((hg.block b (by omega) (fun e2 => by have := (own_ge' o1 e2.symm).2; have := (hA b o e).1; omega)).trans (Below.heap_alloc _ _ _ hb)), fun b o e => ⟨⟨by have := (hA b o e).1; omega, by have := (hA b o e).2; simp [World.setCell]; omega⟩, fun e2 => ?_, fun e2 => by have := (own_ge' o2 e2).2; have := (hA b o e).1; omega⟩⟩
      simp only [Value.ownBlock, Option.some.injEq] at e2
      subst e2
      rcases hat with hat | hat
      · have := (own_ge' o1 hat).2; have := (hA _ o e).1; omega
      · have := (hA _ o e).2; omega
  · simp only [Value.ownBlock, Option.some.injEq] at hk
    subst hk
    exact hg2

theorem DW.push2 (h : DW H wB w ls ds) {v1 v2 : Value} {gs : List Value} (b1 : Blk w (H + 1) 22 [v1]) (b2 : Blk w (H + 2) 23 [v2]) (o1 : w.ownsRow wB.heap.size 26 1 v1 ls.length gs) (o2 : w.ownsRow wB.heap.size 3 1 v2 ds.length (ints ds))
    (hp : Pts wB.heap.size w v1 v2 gs ls) (hne : ∀ k, v1.ownBlock = some k → v2.ownBlock ≠ some k) {x : Int} {o : Obj} {g cap : Nat}
    (hown : w3.ownsRow wB.heap.size 3 1 (.slice (some ⟨g, 0, none⟩) (ds.length + 1) cap) (ds.length + 1) (ints ds ++ [.int .i64 x])) (hg : (w.alloc o).grownBy w3 v2.ownBlock) (hat : v2.ownBlock = some g ∨ g = w.heap.size + 1) :
    DW H wB (w3.setCell ⟨H + 2, 0, none⟩ (.slice (some ⟨g, 0, none⟩) (ds.length + 1) cap)) ls (ds ++ [x]) := by
  have hlow := h.low
  have hBw := h.mod.size
  have hal : (w.alloc o).heap.size = w.heap.size + 1 := World.size_alloc _ _
  have hgs := hg.size
  have hg1 : v1.ownBlock ≠ some g := fun e => by
    rcases hat with hat | hat
    · exact hne g e hat
    · have := (own_ge' o1 e).2; omega
  have keep : ∀ k, k < w.heap.size → k ≠ H + 2 → v2.ownBlock ≠ some k → (w3.setCell ⟨H + 2, 0, none⟩ (.slice (some ⟨g, 0, none⟩) (ds.length + 1) cap)).heap[k]? = w.heap[k]? := fun k hk h1 h2 =>
    (Below.heap_setCell _ _ _ _ h1).trans ((hg.block k (by omega) (fun e => h2 e.symm)).trans (Below.heap_alloc _ _ _ (by omega)))
  have n1 : v2.ownBlock ≠ some (H + 1) := fun e => by have := (own_ge' o2 e).1; omega
  have n2 : v2.ownBlock ≠ some (H + 2) := fun e => by have := (own_ge' o2 e).1; omega
  refine ⟨⟨?_, ?_, ?_, ?_, fun k hk hn => ?_⟩, hlow, v1, .slice (some ⟨g, 0, none⟩) (ds.length + 1) cap, gs, ?_, ?_, ?_, ?_, ⟨hp.1, fun i v ys hv hy => ?_⟩, fun k hk hk2 => ?_⟩
  · exact hg.os.trans h.mod.os
  · exact hg.tape.trans h.mod.tape
  · exact hg.output.trans h.mod.output
  · simp [World.setCell]; omega
  · exact (keep k (by omega) (fun e => hn (.inr e)) (fun e => by have := (own_ge' o2 e).1; omega)).trans (h.mod.block k hk hn)
  · have hb : Blk w3 (H + 1) 22 [v1] := (b1.alloc o).grown hg (fun e => n1 e.symm)
    exact hb.other _ (by show H + 2 ≠ H + 1; omega)
  · have hb : Blk w3 (H + 2) 23 [v2] := (b2.alloc o).grown hg (fun e => n2 e.symm)
    exact hb.set 0 _
  · exact ⟨o1.1, o1.2.imp (fun h => h) fun ⟨g', cap', cur, e, hb, hgg, rest⟩ => ⟨g', cap', cur, e, hb, by
      rw [keep g' (Array.getElem?_eq_some_iff.1 hgg).1 (by omega) (fun e' => hne g' (by rw [e]; rfl) e')]; exact hgg, rest⟩⟩
  · rw [List.length_append]
    have := owns_keep (w' := w3.setCell ⟨H + 2, 0, none⟩ (.slice (some ⟨g, 0, none⟩) (ds.length + 1) cap)) hown fun k hk _ => Below.heap_setCell _ _ _ _ (by show k ≠ H + 2; omega)
    simpa [ints] using this
  · obtain ⟨A', n', c', e, hn', hs', hA'⟩ := hp.2 i v ys hv hy
    refine ⟨A', n', c', e, hn', sl_keep2 hs' fun b o e hb => keep b hb (by have := (hA' b o e).1.1; omega) (hA' b o e).2.2, fun b o e => ⟨⟨(hA' b o e).1.1, by have := (hA' b o e).1.2; simp [World.setCell]; omega⟩, (hA' b o e).2.1, fun e2 => ?_⟩⟩
    simp only [Value.ownBlock, Option.some.injEq] at e2
    subst e2
    rcases hat with hat | hat
    · exact (hA' _ o e).2.2 hat
    · have := (hA' _ o e).1.2; omega
  · simp only [Value.ownBlock, Option.some.injEq] at hk2
    subst hk2
    exact hg1 hk
end
end Go.Proofs.Ytmeooadgdagiiaa.W

namespace Lox.KB
variable {α β : Type}
def T.map (f : α → β) : T α → T β
  | .nil => .nil
  | .node p d l r => .node (f p) d (l.map f) (r.map f)

theorem T.map_all (f : α → β) : ∀ t : T α, (t.map f).all = t.all.map f := by
  intro t
  induction t with
  | nil => rfl
  | node p d l r ihl ihr => simp only [T.map, T.all, ihl, ihr, List.map_append, List.map_cons]
end Lox.KB
namespace Go.Proofs.Ytmeooadgdagiiaa
open Go.RowKit Lox
set_option linter.unusedVariables false
attribute [local go_sem] run_store_flt run_store_fn
attribute [local go_sem ↓] Go.wp_at_zero Go.wp_at_succ

set_option maxHeartbeats 2000000 in
theorem kbox_ptr (A B : Option Addr) (n m c c' : Nat) (xs ys : List Nat) (w : World) (ha : Sl w A n 1 (flts xs)) (hb : Sl w B m 1 (flts ys)) (h : n = 0 ∨ (0 < n ∧ n ≤ 4 ∧ 0 < m ∧ m ≤ 4)) :
    Calls Try.prog 47 #[.slice A n c, .slice B m c'] w fun e w' => (∃ q bx, e = .returned (.pointer q) ∧ boxV bx = .pointer q) ∧ Mod (fun _ => False) w w' := by
  have H : Hid (Sl w A n 1 (flts xs) ∧ Sl w B m 1 (flts ys)) := ⟨ha, hb⟩
  clear ha hb
  rcases h with h | h
  · subst h
    go_enter Try.func47, Try.ntmps47
    go_wp2
    go_ret
    exact ⟨⟨_, none, rfl, rfl⟩, Mod.refl _ _⟩
  · have hn0 : ((n : Int) == 0) = false := by
      have : (n : Int) ≠ 0 := by omega
      simpa using this
    go_enter Try.func47, Try.ntmps47
    go_wp2_with (first
      | (go_at_call_of 33 (Value.slice A n c); refine (floats_any A n c xs _ H.out.1 (by omega) h.1).mono ?_; rintro _ w2 ⟨A2, c2, rfl, hs2, hm2, hb2⟩)
      | (go_at_call_of 33 (Value.slice B m c'); refine (floats_any B m c' ys _ (H.out.2.mod hm2) (by omega) h.2.2.1).mono ?_; rintro _ w3 ⟨A3, c3, rfl, hs3, hm3, hb3⟩))
    go_ret
    exact ⟨⟨_, some ⟨_, ⟨none, 0, []⟩, ⟨none, 0, []⟩⟩, rfl, rfl⟩, (hm2.trans hm3).alloc _⟩

/-- In the rows, from place i on, the tree is written down. -/
def Seg (rs : List KR) (mt : MT) (i : Nat) : Prop := ∀ j x, (mt.flat i)[j]? = some x → ∃ y, rs[i + j]? = some y ∧ y.plain = x

theorem seg_root {rs : List KR} {mt : MT} (h : rs.map KR.plain = mt.flat 0) : Seg rs mt 0 := by
  intro j x hx
  rw [← h, List.getElem?_map] at hx
  rw [Nat.zero_add]
  cases hr : rs[j]? with
  | none => rw [hr] at hx; simp at hx
  | some y => rw [hr] at hx; simp only [Option.map_some, Option.some.injEq] at hx; exact ⟨y, rfl, hx⟩

theorem Seg.left {rs : List KR} {g d i : Nat} {p : TP} {bx : Option BX} {l r : MT} (h : Seg rs (.node g p d bx l r) i) : Seg rs l (i + 1) := by
  intro j x hx
  have hj := (List.getElem?_eq_some_iff.1 hx).1
  have e : i + 1 + j = i + (j + 1) := by omega
  rw [e]
  refine h (j + 1) x ?_
  simp only [MT.flat, List.getElem?_cons_succ]
  rw [List.getElem?_append_left hj]
  exact hx

theorem Seg.right {rs : List KR} {g d i : Nat} {p : TP} {bx : Option BX} {l r : MT} (h : Seg rs (.node g p d bx l r) i) : Seg rs r (i + 1 + l.count) := by
  intro j x hx
  have e : i + 1 + l.count + j = i + (l.count + j + 1) := by omega
  rw [e]
  refine h (l.count + j + 1) x ?_
  simp only [MT.flat, List.getElem?_cons_succ]
  rw [List.getElem?_append_right (by rw [MT.flat_len]; omega), MT.flat_len, show l.count + j - l.count = j from by omega]
  exact hx

/-- The tree has been made. -/
def KnMade (dims : Nat) (mt : MT) (w : World) (e : Ending) (w' : World) : Prop :=
  ∃ (v : Value) (mt' : MT), e = .returned v ∧ mt'.In w' v ∧ mt'.T.map TP.xs = mt.T.map TP.xs ∧ (∀ g ∈ mt'.gs, w.heap.size ≤ g) ∧ (∀ p ∈ mt'.pts, p.Ok w' dims) ∧ Mod (fun _ => False) w w'

theorem MT.at_lt {mt : MT} {i : Nat} (h : ¬ (i : Int) < mt.at (i + 1)) : mt = .nil := by
  cases mt with
  | nil => rfl
  | node g p d bx l r => exact absurd (by show (i : Int) < ((i + 1 : Nat) : Int); omega) h

theorem MT.at_lt2 {mt : MT} {i k : Nat} (h : ¬ (i : Int) < mt.at (i + 1 + k)) : mt = .nil := by
  cases mt with
  | nil => rfl
  | node g p d bx l r => exact absurd (by show (i : Int) < ((i + 1 + k : Nat) : Int); omega) h

theorem noflt_node {w : World} {g pl : Nat} {p : TP} {ql qr : Option Addr} {bx : Option BX} (h : Blk w g 122 (nodeCells p pl (.pointer ql) (.pointer qr) bx)) : NoFlt w g := by
  intro o x hc
  rw [h.cell] at hc
  have hm := List.mem_of_getElem? hc
  unfold nodeCells boxV at hm
  cases bx <;> simp at hm

theorem TP.Ok.setNode {w : World} {dims g pl i : Nat} {p q : TP} {ql qr : Option Addr} {bx : Option BX} (hp : p.Ok w dims) (h : Blk w g 122 (nodeCells q pl (.pointer ql) (.pointer qr) bx)) (v : Value) : p.Ok (w.setCell ⟨g, i, none⟩ v) dims :=
  hp.noFlt (S := fun k => k = g) ((Mod.refl (fun k => k = g) w).set (p := ⟨g, i, none⟩) (.inl rfl) v) fun k _ e => by subst e; exact noflt_node h

theorem MT.In.setOff {w : World} {t : MT} {v : Value} {g i : Nat} (h : t.In w v) (hg : ∀ k ∈ t.gs, g < k) (u : Value) : t.In (w.setCell ⟨g, i, none⟩ u) v :=
  h.keep fun k hk _ => Below.heap_setCell _ _ _ _ (by show k ≠ g; have := hg k hk; omega)

set_option maxRecDepth 100000 in
set_option maxHeartbeats 8000000 in
theorem knode2_at (A : Option Addr) (c n dims B : Nat) (rs : List KR) (hdm : 0 < dims ∧ dims ≤ 4) (hn : n = rs.length) (hbx : ∀ x ∈ rs, x.mn.xs = [] ∨ (x.mn.xs.length = dims ∧ x.mx.xs.length = dims)) (mt : MT) :
    ∀ (i : Nat) (I : Int) (w : World), I = mt.at i → KS B w dims (.slice A n c) rs → Seg rs mt i → Calls Try.prog 66 #[.slice A n c, .int .i64 I] w (KnMade dims mt w) := by
  induction mt with
  | nil =>
    intro i I w hI hK hS
    have hI : I = -1 := hI
    subst hI
    clear hK hS
    go_enter Try.func66, Try.ntmps66
    go_wp2
    go_ret
    exact ⟨_, .nil, rfl, rfl, rfl, (fun g hg => by cases hg), (fun p hp => by cases hp), Mod.refl _ _⟩
  | node g0 p pl bx0 l r ihl ihr =>
    intro i I w hI hK hS
    have hI2 : I = (i : Int) := hI
    clear hI
    subst hI2
    obtain ⟨x, hxr, hxp⟩ := hS 0 _ rfl
    rw [Nat.add_zero] at hxr
    have hil := (List.getElem?_eq_some_iff.1 hxr).1
    obtain ⟨gb, cap, e5, -, -⟩ := hK.own.form (by omega)
    injection e5 with e5 e6 e7
    subst e5
    have hkc := fun (j : Nat) (hj : j < 6) => (hK.cell hn hxr (j := j) hj).1
    have hok := hK.ok x (List.mem_of_getElem? hxr)
    have hbxx := hbx x (List.mem_of_getElem? hxr)
    have hSl := hS.left
    have hSr := hS.right
    obtain ⟨⟨A0, cc0, xs⟩, plx, cl, fu, ⟨A1, k1, ys1⟩, ⟨A3, k3, ys3⟩⟩ := x
    simp only [KR.plain, PR.mk.injEq] at hxp
    obtain ⟨exs, epl, ecl, efu, -, -⟩ := hxp
    have hxl : xs.length = dims := hok.1.1.1
    obtain ⟨n1, en1⟩ : ∃ n1, n1 = ys1.length := ⟨_, rfl⟩
    obtain ⟨n3, en3⟩ : ∃ n3, n3 = ys3.length := ⟨_, rfl⟩
    have c0 : w.cell? ⟨gb, i * 6, none⟩ = some (.slice A0 dims cc0) := by
      have h := hkc 0 (by omega)
      rw [Nat.add_zero] at h
      rw [h, ← hxl]; rfl
    have c1 : w.cell? ⟨gb, i * 6 + 1, none⟩ = some (.int .i64 plx) := hkc 1 (by omega)
    have c2 : w.cell? ⟨gb, i * 6 + 2, none⟩ = some (.int .i64 cl) := hkc 2 (by omega)
    have c3 : w.cell? ⟨gb, i * 6 + 3, none⟩ = some (.int .i64 fu) := hkc 3 (by omega)
    have c4 : w.cell? ⟨gb, i * 6 + 4, none⟩ = some (.slice A1 n1 k1) := by rw [hkc 4 (by omega), en1]; rfl
    have c5 : w.cell? ⟨gb, i * 6 + 5, none⟩ = some (.slice A3 n3 k3) := by rw [hkc 5 (by omega), en3]; rfl
    have hs0 : Sl w A0 dims 1 (flts xs) := by have := hok.1.1.2; rw [← hxl]; exact this
    have sl0 : ∀ (A : Option Addr) (k : Nat) (ys : List Nat), TP.Own0 B w dims (.slice (some ⟨gb, 0, none⟩) n c) ⟨A, k, ys⟩ → Sl w A ys.length 1 (flts ys) := by
      intro A k ys h
      rcases h with h | h
      · cases h; exact ⟨rfl, fun h0 => absurd h0 (by decide)⟩
      · exact h.1.2
    have hs1 : Sl w A1 n1 1 (flts ys1) := by rw [en1]; exact sl0 _ _ _ hok.2.1
    have hs3 : Sl w A3 n3 1 (flts ys3) := by rw [en3]; exact sl0 _ _ _ hok.2.2
    have hPb : n1 = 0 ∨ (0 < n1 ∧ n1 ≤ 4 ∧ 0 < n3 ∧ n3 ≤ 4) := by
      rcases hbxx with h | h
      · left; rw [en1]; show ys1.length = 0; have h : ys1 = [] := h; rw [h]; rfl
      · right
        have h1 : ys1.length = dims := h.1
        have h3 : ys3.length = dims := h.2
        omega
    have hi : ¬ n ≤ i := by omega
    have hsz0 := hK.own
    have IHL := Lib.hid ihl
    have IHR := Lib.hid ihr
    have HN := Lib.hid hK
    have HS := Lib.hid (And.intro hs0 (And.intro hs1 hs3))
    have HPB := Lib.hid hPb
    have HE := Lib.hid (And.intro exs (And.intro epl (And.intro ecl (And.intro efu (And.intro hxl (And.intro hSl hSr))))))
    clear ihl ihr hK hS hxr hkc hok hbxx hSl hSr exs epl ecl efu hxl sl0 hs0 hs1 hs3 hPb en1 en3 hsz0 e6 e7 hil hn
    go_enter Try.func66, Try.ntmps66
    go_wp2_with fail
    go_cut [6] from 19 to 31 (fun q wx => ∃ g A2 c2 bq bx, q = .pointer (some ⟨g, 0, none⟩) ∧ boxV bx = .pointer bq ∧ w.heap.size + 1 ≤ g ∧ Blk wx g 122 (nodeCells ⟨A2, c2, xs⟩ plx (.pointer none) (.pointer none) bx) ∧ TP.Ok wx dims ⟨A2, c2, xs⟩ ∧ Mod (fun _ => False) (w.alloc (.cells #[.slice A0 dims cc0, .int .i64 plx, .int .i64 cl, .int .i64 fu, .slice A1 n1 k1, .slice A3 n3 k3] 39)) wx)
    case first =>
      clear c0 c1 c2 c3 c4 c5
      have B0 := (Blk.new' w #[.slice A0 dims cc0, .int .i64 plx, .int .i64 cl, .int .i64 fu, .slice A1 n1 k1, .slice A3 n3 k3] 39).drew
      have hb0 := B0.lt
      have K4 : ∀ w' : World, Blk w' w.heap.size 39 [.slice A0 dims cc0, .int .i64 plx, .int .i64 cl, .int .i64 fu, .slice A1 n1 k1, .slice A3 n3 k3] → (fun w' => w'.cell? ⟨w.heap.size, 0, none⟩ = some (.slice A0 dims cc0) ∧ w'.cell? ⟨w.heap.size, 1, none⟩ = some (.int .i64 plx) ∧ w'.cell? ⟨w.heap.size, 4, none⟩ = some (.slice A1 n1 k1) ∧ w'.cell? ⟨w.heap.size, 5, none⟩ = some (.slice A3 n3 k3)) w' := fun w' h => ⟨h.at (i := 0) rfl, h.at (i := 1) rfl, h.at (i := 4) rfl, h.at (i := 5) rfl⟩
      have HB0 := Lib.hid B0
      have HK4 := Lib.hid K4
      clear B0 K4
      go_region_held3 (fun w' => w'.cell? ⟨w.heap.size, 0, none⟩ = some (.slice A0 dims cc0) ∧ w'.cell? ⟨w.heap.size, 1, none⟩ = some (.int .i64 plx) ∧ w'.cell? ⟨w.heap.size, 4, none⟩ = some (.slice A1 n1 k1) ∧ w'.cell? ⟨w.heap.size, 5, none⟩ = some (.slice A3 n3 k3)) (first | exact HK4.out _ HB0.out | exact HK4.out _ (HB0.out.mod hma (fun h => h)) | exact HK4.out _ ((HB0.out.mod hma (fun h => h)).alloc _))
        (first
          | (go_at_call 33; first
             | (refine (floats_any A0 dims cc0 xs _ ((HS.out.1.alloc _).drew) (by omega) hdm.1).mono ?_; rintro _ w2 ⟨A2, cc2, rfl, hs2, hma, hb2⟩; have hsz := hma.size; rw [show ∀ x : World, x.drew.heap.size = x.heap.size from fun _ => rfl, World.size_alloc] at hsz)
             | (refine (floats_any A0 dims cc0 xs _ (((HS.out.1.alloc _).drew).mod hma) (by omega) hdm.1).mono ?_; rintro _ w2 ⟨A2, cc2, rfl, hs2, hmb, hb2⟩; have hmc := hma; clear hma; have hma := hmc.trans hmb; have hsz := hma.size; rw [show ∀ x : World, x.drew.heap.size = x.heap.size from fun _ => rfl, World.size_alloc] at hsz))
          | (go_at_call 47; first
             | (refine (kbox_ptr A1 A3 n1 n3 k1 k3 ys1 ys3 _ ((HS.out.2.1.alloc _).drew) ((HS.out.2.2.alloc _).drew) HPB.out).mono ?_; rintro _ w4 ⟨⟨bq, bx, rfl, hbq⟩, hma⟩)
             | (refine (kbox_ptr A1 A3 n1 n3 k1 k3 ys1 ys3 _ (((HS.out.2.1.alloc _).drew).mod hma) (((HS.out.2.2.alloc _).drew).mod hma) HPB.out).mono ?_; rintro _ w4 ⟨⟨bq, bx, rfl, hbq⟩, hmb⟩; have hsx := hs2; clear hs2; have hs2 := hsx.mod hmb; have hmc := hma; clear hma; have hma := hmc.trans hmb; have hsz := hma.size; rw [show ∀ x : World, x.drew.heap.size = x.heap.size from fun _ => rfl, World.size_alloc] at hsz)))
      all_goals
        go_wp2_with fail
        go_meet
        exact ⟨_, A2, cc2, bq, bx, rfl, hbq, (by omega), (by have e : nodeCells ⟨A2, cc2, xs⟩ plx (.pointer none) (.pointer none) bx = [.iface 73 (.slice A2 dims cc2), .int .i64 plx, .pointer none, .pointer none, .pointer bq] := (by unfold nodeCells; rw [hbq, ← HE.out.2.2.2.2.1]; rfl); rw [e]; exact Blk.new' _ _ _), ⟨HE.out.2.2.2.2.1, by show Sl _ A2 xs.length 1 _; rw [HE.out.2.2.2.2.1]; exact hs2.alloc _⟩, (((Mod.refl _ _).drew).trans hma).alloc _⟩
    case rest =>
      obtain ⟨g, A2, C2, bq, bx, rfl, hbq, hg, hb, hok2, hm⟩ := hcut
      have hB0 : Blk wc w.heap.size 39 [.slice A0 dims cc0, .int .i64 plx, .int .i64 cl, .int .i64 fu, .slice A1 n1 k1, .slice A3 n3 k3] := (Blk.new' w #[.slice A0 dims cc0, .int .i64 plx, .int .i64 cl, .int .i64 fu, .slice A1 n1 k1, .slice A3 n3 k3] 39).mod hm (fun h => h)
      have hmw : Mod (fun _ => False) w wc := ((Mod.refl _ _).alloc _).trans hm
      have hgl := hb.lt
      have j2 := hB0.at (i := 2) rfl
      have j3 := hB0.at (i := 3) rfl
      have K : Hid (Blk wc g 122 (nodeCells ⟨A2, C2, xs⟩ plx (.pointer none) (.pointer none) bx) ∧ TP.Ok wc dims ⟨A2, C2, xs⟩ ∧ Blk wc w.heap.size 39 [.slice A0 dims cc0, .int .i64 plx, .int .i64 cl, .int .i64 fu, .slice A1 n1 k1, .slice A3 n3 k3] ∧ Mod (fun _ => False) w wc ∧ boxV bx = .pointer bq) := ⟨hb, hok2, hB0, hmw, hbq⟩
      clear hm hb hok2 hB0 hmw hbq c0 c1 c2 c3 c4 c5
      go_upto_if 35 with fail
      go_cut [] from 35 to 42 (fun wx => ∃ (lv : Option Addr) (t1 : MT), Blk wx g 122 (nodeCells ⟨A2, C2, xs⟩ plx (.pointer lv) (.pointer none) bx) ∧ t1.In wx (.pointer lv) ∧ (∀ k ∈ t1.gs, g < k) ∧ (∀ p ∈ t1.pts, p.Ok wx dims) ∧ Blk wx w.heap.size 39 [.slice A0 dims cc0, .int .i64 plx, .int .i64 cl, .int .i64 fu, .slice A1 n1 k1, .slice A3 n3 k3] ∧ TP.Ok wx dims ⟨A2, C2, xs⟩ ∧ Mod (fun _ => False) w wx ∧ t1.T.map TP.xs = l.T.map TP.xs)
      case first =>
        by_cases h1 : (i : Int) < cl
        · go_wp2_with (go_at_call 66; refine (IHL.out (i + 1) cl wc HE.out.2.2.1 (HN.out.mod K.out.2.2.2.1) HE.out.2.2.2.2.2.1).mono ?_; rintro _ w3 ⟨lv, t1, rfl, ht1, hx1, hg1, hp1, hm1⟩; obtain ⟨q1, rfl⟩ := ht1.ptr; have y2 : w3.cell? ⟨g, 2, none⟩ = some (.pointer none) := ((K.out.1.mod hm1 (fun h => h)).at (i := 2) rfl); have z2 : w3.frozen? ⟨g, 2, none⟩ = false := ((K.out.1.mod hm1 (fun h => h)).frozen 2); have HT := Lib.hid (And.intro ht1 (And.intro hx1 (And.intro hg1 (And.intro hp1 hm1)))); clear ht1 hx1 hg1 hp1 hm1)
          go_meet
          obtain ⟨ht1, hx1, hg1, hp1, hm1⟩ := HT.out
          have b3 := K.out.1.mod hm1 (fun h => h)
          exact ⟨q1, t1, b3.set 2 (.pointer q1), ht1.setOff (fun k hk => by have := hg1 k hk; omega) _, (fun k hk => by have := hg1 k hk; omega), (fun p hp => (hp1 p hp).setNode b3 _), (K.out.2.2.1.mod hm1 (fun h => h)).other _ (by show g ≠ w.heap.size; omega), (K.out.2.1.mod0 hm1).setNode b3 _, (K.out.2.2.2.1.trans hm1).set (.inr (by show w.heap.size ≤ g; omega)) _, hx1⟩
        · have hnil : l = .nil := MT.at_lt (by rw [← HE.out.2.2.1]; exact h1)
          have HNI := Lib.hid hnil
          clear hnil
          go_wp2_with fail
          go_meet
          exact ⟨none, .nil, K.out.1, rfl, (fun k hk => by cases hk), (fun p hp => by cases hp), K.out.2.2.1, K.out.2.1, K.out.2.2.2.1, by rw [HNI.out]⟩
      case rest =>
        obtain ⟨lv, t1, hb1, ht1, hg1, hp1, hB1, hok1, hm1, hx1⟩ := hcut
        have q1 := hB1.at (i := 3) rfl
        have hgl2 := hb1.lt
        have hsz := hm1.size
        have K2 : Hid (Blk wc g 122 (nodeCells ⟨A2, C2, xs⟩ plx (.pointer lv) (.pointer none) bx) ∧ t1.In wc (.pointer lv) ∧ (∀ k ∈ t1.gs, g < k) ∧ (∀ p ∈ t1.pts, p.Ok wc dims) ∧ TP.Ok wc dims ⟨A2, C2, xs⟩ ∧ Mod (fun _ => False) w wc ∧ t1.T.map TP.xs = l.T.map TP.xs) := ⟨hb1, ht1, hg1, hp1, hok1, hm1, hx1⟩
        clear hb1 ht1 hg1 hp1 hB1 hok1 hm1 hx1 j2 j3
        by_cases h2 : (i : Int) < fu
        · go_wp2_with (go_at_call 66; refine (IHR.out (i + 1 + l.count) fu wc HE.out.2.2.2.1 (HN.out.mod K2.out.2.2.2.2.2.1) HE.out.2.2.2.2.2.2).mono ?_; rintro _ w3 ⟨rv, t2, rfl, ht2, hx2, hg2, hp2, hm2⟩; obtain ⟨q2, rfl⟩ := ht2.ptr; have y3 : w3.cell? ⟨g, 3, none⟩ = some (.pointer none) := ((K2.out.1.mod hm2 (fun h => h)).at (i := 3) rfl); have z3 : w3.frozen? ⟨g, 3, none⟩ = false := ((K2.out.1.mod hm2 (fun h => h)).frozen 3); have HT := Lib.hid (And.intro ht2 (And.intro hx2 (And.intro hg2 (And.intro hp2 hm2)))); clear ht2 hx2 hg2 hp2 hm2)
          go_ret
          obtain ⟨ht2, hx2, hg2, hp2, hm2⟩ := HT.out
          obtain ⟨e1, e2, e3, e4, e5, e6, e7⟩ := K2.out
          have b3 := e1.mod hm2 (fun h => h)
          refine ⟨_, .node g ⟨A2, C2, xs⟩ plx bx t1 t2, rfl, ⟨rfl, .pointer lv, .pointer q2, b3.set 3 (.pointer q2), (e2.mod hm2 (fun _ _ h => h)).setOff e3 _, ht2.setOff (fun k hk => by have := hg2 k hk; omega) _⟩, ?_, ?_, ?_, (e6.trans hm2).set (.inr (by show w.heap.size ≤ g; omega)) _⟩
          · show KB.T.node xs plx (t1.T.map TP.xs) (t2.T.map TP.xs) = KB.T.node p.xs pl (l.T.map TP.xs) (r.T.map TP.xs)
            rw [e7, hx2, HE.out.1, HE.out.2.1]
          · intro k hk
            rcases List.mem_cons.1 hk with rfl | hk
            · omega
            · rcases List.mem_append.1 hk with hk | hk
              · have := e3 k hk; omega
              · have := hg2 k hk; omega
          · intro p' hp'
            rcases List.mem_append.1 hp' with hp' | hp'
            · exact ((e4 p' hp').mod0 hm2).setNode b3 _
            · rcases List.mem_cons.1 hp' with rfl | hp'
              · exact (e5.mod0 hm2).setNode b3 _
              · exact (hp2 p' hp').setNode b3 _
        · have hnil : r = .nil := MT.at_lt2 (by rw [← HE.out.2.2.2.1]; exact h2)
          have HNI := Lib.hid hnil
          clear hnil
          go_wp2_with fail
          go_ret
          obtain ⟨e1, e2, e3, e4, e5, e6, e7⟩ := K2.out
          refine ⟨_, .node g ⟨A2, C2, xs⟩ plx bx t1 .nil, rfl, ⟨rfl, .pointer lv, .pointer none, e1, e2, rfl⟩, ?_, ?_, ?_, e6⟩
          · show KB.T.node xs plx (t1.T.map TP.xs) .nil = KB.T.node p.xs pl (l.T.map TP.xs) (r.T.map TP.xs)
            rw [e7, HE.out.1, HE.out.2.1, HNI.out]; rfl
          · intro k hk
            rcases List.mem_cons.1 hk with rfl | hk
            · omega
            · rcases List.mem_append.1 hk with hk | hk
              · have := e3 k hk; omega
              · cases hk
          · intro p' hp'
            rcases List.mem_append.1 hp' with hp' | hp'
            · exact e4 p' hp'
            · rcases List.mem_cons.1 hp' with rfl | hp'
              · exact e5
              · cases hp'
end Go.Proofs.Ytmeooadgdagiiaa

namespace Go.Proofs.Ytmeooadgdagiiaa.W
open Go.RowKit Lox
set_option linter.unusedVariables false

/-- A point as the reference's walks have it. -/
def ptOf (p : TP) : Pt := ⟨p.A, p.xs.length, p.c, p.xs⟩
/-- A row as the reference's walks have it. -/
def knOf (x : KR) : KN := ⟨ptOf x.p, x.pl, x.l, x.r, ptOf x.mn, ptOf x.mx⟩

theorem sl_cells {w : World} {A : Option Addr} {n size : Nat} {xs : List Value} (h : Sl w A n size xs) (hn : 0 < n) : ∃ b o, A = some ⟨b, o, none⟩ ∧ ∀ j v, xs[j]? = some v → w.cell? ⟨b, o + j, none⟩ = some v := h.2 hn

theorem TP.Own0.pt {B : Nat} {w : World} {dims : Nat} {v : Value} {p : TP} (h : p.Own0 B w dims v) (hd : dims ≤ 1099511627776) : (ptOf p).Ok w := by
  rcases h with rfl | h
  · exact ⟨⟨rfl, fun h => by cases h⟩, by show 0 ≤ _; omega⟩
  · exact ⟨h.1.2, by show p.xs.length ≤ _; rw [h.1.1]; omega⟩

theorem knodes_of {B : Nat} {w : World} {dims n c : Nat} {A : Option Addr} {rs : List KR} (h : KS B w dims (.slice A n c) rs) (hn : n = rs.length) (hd : dims ≤ 1099511627776) (hb : rs.length ≤ 9223372036854775807) : KNodes w A (rs.map knOf) := by
  refine ⟨by rw [List.length_map]; exact hb, fun h0 => ?_, fun x hx => ?_⟩
  · rw [List.length_map] at h0
    obtain ⟨g, cap, e, -, -⟩ := h.own.form h0
    injection e with e1 e2 e3
    subst e1
    refine ⟨g, 0, rfl, fun i x hx => ?_⟩
    rw [List.getElem?_map] at hx
    cases hi : rs[i]? with
    | none => rw [hi] at hx; cases hx
    | some y =>
      rw [hi] at hx
      have hx : knOf y = x := by simpa using hx
      subst hx
      have q := fun (j : Nat) (hj : j < 6) => (h.cell hn hi (j := j) hj).1
      rw [Nat.zero_add]
      exact ⟨q 0 (by omega), q 1 (by omega), q 2 (by omega), q 3 (by omega), q 4 (by omega), q 5 (by omega)⟩
  · obtain ⟨y, hy, rfl⟩ := List.mem_map.1 hx
    obtain ⟨h1, h2, h3⟩ := h.ok y hy
    exact ⟨TP.Own0.pt (.inr h1) hd, TP.Own0.pt h2 hd, TP.Own0.pt h3 hd⟩

/-- The shape of a tree that is written down from place i on. -/
def MT.sh : MT → Nat → SH
  | .nil, _ => .nil
  | .node _ _ _ _ l r, i => .node i (MT.sh l (i + 1)) (MT.sh r (i + 1 + l.count))

theorem MT.sh_ids : ∀ (t : MT) (i : Nat), ((MT.sh t i).ids.Nodup ∧ (MT.sh t i).ids.length = t.count) ∧ ∀ k ∈ (MT.sh t i).ids, i ≤ k ∧ k < i + t.count := by
  intro t
  induction t with
  | nil => intro i; exact ⟨⟨List.nodup_nil, rfl⟩, fun k hk => by cases hk⟩
  | node g p d bx l r ihl ihr =>
    intro i
    obtain ⟨⟨a1, a2⟩, a3⟩ := ihl (i + 1)
    obtain ⟨⟨b1, b2⟩, b3⟩ := ihr (i + 1 + l.count)
    refine ⟨⟨?_, by simp only [MT.sh, SH.ids, MT.count, List.length_cons, List.length_append, a2, b2]; omega⟩, fun k hk => ?_⟩
    · show (i :: ((MT.sh l (i + 1)).ids ++ (MT.sh r (i + 1 + l.count)).ids)).Nodup
      refine List.nodup_cons.2 ⟨fun h => ?_, List.nodup_append.2 ⟨a1, b1, fun a ha b hb e => ?_⟩⟩
      · rcases List.mem_append.1 h with h | h
        · have := a3 _ h; omega
        · have := b3 _ h; omega
      · have := a3 a ha; have := b3 b hb; omega
    · have hk : k ∈ i :: ((MT.sh l (i + 1)).ids ++ (MT.sh r (i + 1 + l.count)).ids) := hk
      simp only [MT.count]
      rcases List.mem_cons.1 hk with rfl | hk
      · omega
      · rcases List.mem_append.1 hk with hk | hk
        · have := a3 k hk; omega
        · have := b3 k hk; omega

theorem MT.sh_ord_len (t : MT) (i : Nat) : (MT.sh t i).ord.length = t.count := by rw [SH.ord_len]; exact (MT.sh_ids t i).1.2

theorem seg_node {rs : List KR} {g d i : Nat} {p : TP} {bx : Option BX} {l r : MT} (h : Seg rs (.node g p d bx l r) i) : ∃ y, rs[i]? = some y ∧ y.plain = ⟨p.xs, d, l.at (i + 1), r.at (i + 1 + l.count), boxMn bx, boxMx bx⟩ := by
  obtain ⟨y, h1, h2⟩ := h 0 ⟨p.xs, d, l.at (i + 1), r.at (i + 1 + l.count), boxMn bx, boxMx bx⟩ rfl
  exact ⟨y, h1, h2⟩

theorem kc_at {rs : List KR} {k : Nat} {y : KR} (h : rs[k]? = some y) : KC (rs.map knOf) k = y.l ∧ KF (rs.map knOf) k = y.r := by
  unfold KC KF
  rw [List.getElem?_map, h]
  exact ⟨rfl, rfl⟩

theorem MT.sh_at {rs : List KR} {n : Nat} (hn : rs.length = n) : ∀ (t : MT) (i : Nat) (above : Int), Seg rs t i → above < i → (MT.sh t i).At (KC (rs.map knOf)) (KF (rs.map knOf)) n (t.at i) above := by
  intro t
  induction t with
  | nil => intro i above _ _; rfl
  | node g p d bx l r ihl ihr =>
    intro i above h ha
    obtain ⟨y, hy, ey⟩ := seg_node h
    obtain ⟨k1, k2⟩ := kc_at hy
    have hi := (List.getElem?_eq_some_iff.1 hy).1
    have e1 : y.l = l.at (i + 1) := by have := congrArg PR.l ey; exact this
    have e2 : y.r = r.at (i + 1 + l.count) := by have := congrArg PR.r ey; exact this
    refine ⟨rfl, ha, by omega, ?_, ?_⟩
    · rw [k1, e1]; exact ihl (i + 1) i h.left (by omega)
    · rw [k2, e2]; exact ihr (i + 1 + l.count) i h.right (by omega)

/-- The points of the nodes in the walk's order are the tree's. -/
theorem MT.sh_pts {rs : List KR} : ∀ (t : MT) (i : Nat), Seg rs t i → (MT.sh t i).ord.map (fun k => (rs[k]?).map fun y => y.p.xs) = t.pts.map fun p => some p.xs := by
  intro t
  induction t with
  | nil => intro i _; rfl
  | node g p d bx l r ihl ihr =>
    intro i h
    obtain ⟨y, hy, ey⟩ := seg_node h
    have e1 : y.p.xs = p.xs := congrArg PR.xs ey
    simp only [MT.sh, SH.ord, MT.pts, List.map_append, List.map_cons, ihl _ h.left, ihr _ h.right, hy, Option.map_some, e1]

theorem MT.sh_mem {rs : List KR} {t : MT} {i : Nat} (h : Seg rs t i) {j : Nat} (hj : j ∈ (MT.sh t i).ord) : ∃ y, rs[j]? = some y ∧ ∃ p ∈ t.pts, y.p.xs = p.xs := by
  have h1 : ((rs[j]?).map fun y => y.p.xs) ∈ (t.pts.map fun p => some p.xs) := by
    rw [← MT.sh_pts t i h]
    exact List.mem_map_of_mem (f := fun k => (rs[k]?).map fun y => y.p.xs) hj
  obtain ⟨p, hp, e⟩ := List.mem_map.1 h1
  cases hr : rs[j]? with
  | none => rw [hr] at e; cases e
  | some y => rw [hr] at e; exact ⟨y, rfl, p, hp, by simpa using e.symm⟩

/-- A node in the midst of a tree that is written down. -/
theorem MT.sh_node {rs : List KR} {n dims : Nat} (hn : rs.length = n) : ∀ (t : MT) (i : Nat), Seg rs t i → (∀ p ∈ t.pts, p.xs.length = dims ∧ p.Gr) → t.T.Ord leB → t.T.Each (fun _ d => d < dims) → ∀ k y, i ≤ k → k < i + t.count → rs[k]? = some y →
    y.p.xs.length = dims ∧ y.pl < dims ∧ ∃ l r : SH, l.At (KC (rs.map knOf)) (KF (rs.map knOf)) n y.l k ∧ r.At (KC (rs.map knOf)) (KF (rs.map knOf)) n y.r k ∧ l.ord.length ≤ t.count ∧ r.ord.length ≤ t.count ∧
      (∀ j ∈ l.ord, ∃ z, rs[j]? = some z ∧ LeW (z.p.xs.getD y.pl 0) (y.p.xs.getD y.pl 0)) ∧ (∀ j ∈ r.ord, ∃ z, rs[j]? = some z ∧ GtW (z.p.xs.getD y.pl 0) (y.p.xs.getD y.pl 0)) := by
  intro t
  induction t with
  | nil => intro i _ _ _ _ k y h1 h2; simp only [MT.count] at h2; omega
  | node g p d bx l r ihl ihr =>
    intro i h hp ho he k y h1 h2 hy
    obtain ⟨o1, o2, o3, o4⟩ := ho
    obtain ⟨hd, e3, e4⟩ := he
    by_cases hk : k = i
    · subst hk
      obtain ⟨y', hy', ey⟩ := seg_node h
      rw [hy] at hy'
      cases hy'
      have a1 : y.p.xs = p.xs := congrArg PR.xs ey
      have a2 : y.pl = d := congrArg PR.pl ey
      have a3 : y.l = l.at (k + 1) := congrArg PR.l ey
      have a4 : y.r = r.at (k + 1 + l.count) := congrArg PR.r ey
      obtain ⟨q1, q2⟩ := hp p (by simp [MT.pts])
      have wh : ∀ x : TP, x.Gr → x.xs.length = dims → ∃ a, Wh (x.xs.getD d 0) a := fun x hx hl => by
        obtain ⟨a, ha⟩ := hx d (by omega)
        exact ⟨a, by simpa [TP.n, List.getD] using ha⟩
      obtain ⟨b, hb⟩ := wh p q2 q1
      refine ⟨by rw [a1]; exact q1, by rw [a2]; exact hd, MT.sh l (k + 1), MT.sh r (k + 1 + l.count), ?_, ?_, by rw [MT.sh_ord_len]; simp only [MT.count]; omega, by rw [MT.sh_ord_len]; simp only [MT.count]; omega, fun j hj => ?_, fun j hj => ?_⟩
      · rw [a3]; exact MT.sh_at hn l (k + 1) k h.left (by omega)
      · rw [a4]; exact MT.sh_at hn r (k + 1 + l.count) k h.right (by omega)
      · obtain ⟨z, hz, x, hx, ez⟩ := MT.sh_mem h.left hj
        obtain ⟨x1, x2⟩ := hp x (by simp [MT.pts, hx])
        obtain ⟨a, ha⟩ := wh x x2 x1
        have hle := o1 x (by rw [← MT.pts_all]; exact hx)
        rw [leB_int (a := a) (b := b) (by simpa [TP.n, List.getD] using ha) (by simpa [TP.n, List.getD] using hb)] at hle
        exact ⟨z, hz, a, b, by rw [a2, ez]; exact ha, by rw [a2, a1]; exact hb, of_decide_eq_true hle⟩
      · obtain ⟨z, hz, x, hx, ez⟩ := MT.sh_mem h.right hj
        obtain ⟨x1, x2⟩ := hp x (by simp [MT.pts, hx])
        obtain ⟨a, ha⟩ := wh x x2 x1
        have hle := o2 x (by rw [← MT.pts_all]; exact hx)
        rw [leB_int (a := a) (b := b) (by simpa [TP.n, List.getD] using ha) (by simpa [TP.n, List.getD] using hb)] at hle
        exact ⟨z, hz, a, b, by rw [a2, ez]; exact ha, by rw [a2, a1]; exact hb, by have := of_decide_eq_false hle; omega⟩
    · simp only [MT.count] at h2
      by_cases hk2 : k < i + 1 + l.count
      · obtain ⟨w1, w2, s1, s2, w3, w4, w5, w6, w7⟩ := ihl (i + 1) h.left (fun x hx => hp x (by simp [MT.pts, hx])) o3 e3 k y (by omega) (by omega) hy
        exact ⟨w1, w2, s1, s2, w3, w4, by simp only [MT.count]; omega, by simp only [MT.count]; omega, w7⟩
      · obtain ⟨w1, w2, s1, s2, w3, w4, w5, w6, w7⟩ := ihr (i + 1 + l.count) h.right (fun x hx => hp x (by simp [MT.pts, hx])) o4 e4 k y (by omega) (by omega) hy
        exact ⟨w1, w2, s1, s2, w3, w4, by simp only [MT.count]; omega, by simp only [MT.count]; omega, w7⟩

theorem MT.at_zero {t : MT} (h : 0 < t.count) : t.at 0 = 0 := by
  cases t with
  | nil => simp [MT.count] at h
  | node g p d bx l r => rfl

theorem isKd_of {rs : List KR} {n dims : Nat} {mt : MT} (hn : n = rs.length) (h0 : 0 < n) (hb : n ≤ 2147483647) (h : rs.map KR.plain = mt.flat 0) (hp : ∀ p ∈ mt.pts, p.xs.length = dims ∧ p.Gr) (ho : mt.T.Ord leB) (he : mt.T.Each (fun _ d => d < dims)) : IsKd (rs.map knOf) n dims := by
  have hc : mt.count = n := by have := congrArg List.length h; rw [List.length_map, MT.flat_len] at this; omega
  have hS := seg_root h
  have hat := MT.sh_at (n := n) hn.symm mt 0 (-1) hS (by omega)
  rw [MT.at_zero (by omega)] at hat
  refine ⟨by rw [List.length_map]; exact hn, ⟨MT.sh mt 0, hat, (MT.sh_ids mt 0).1.1, by rw [(MT.sh_ids mt 0).1.2, hc]⟩, fun k x hx => ?_⟩
  rw [List.getElem?_map] at hx
  cases hr : rs[k]? with
  | none => rw [hr] at hx; cases hx
  | some y =>
    rw [hr] at hx
    have hx : knOf y = x := by simpa using hx
    subst hx
    have hk := (List.getElem?_eq_some_iff.1 hr).1
    obtain ⟨w1, w2, s1, s2, w3, w4, w5, w6, w7, w8⟩ := MT.sh_node (n := n) hn.symm mt 0 hS hp ho he k y (by omega) (by omega) hr
    refine ⟨w1, y.pl, rfl, w2, s1, s2, w3, w4, by omega, by omega, fun j hj => ?_, fun j hj => ?_⟩
    · obtain ⟨z, hz, hl⟩ := w7 j hj
      exact ⟨knOf z, by rw [List.getElem?_map, hz]; rfl, hl⟩
    · obtain ⟨z, hz, hl⟩ := w8 j hj
      exact ⟨knOf z, by rw [List.getElem?_map, hz]; rfl, hl⟩
end Go.Proofs.Ytmeooadgdagiiaa.W
