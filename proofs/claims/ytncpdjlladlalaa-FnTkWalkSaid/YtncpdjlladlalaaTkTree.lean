/- k-d trees in memory, and the walk that makes one. Conditions: as each says. -/
import Derived.Test.YtncpdjlladlalaaTkFl
import Derived.Test.YtncpdjlladlalaaIno
import Derived.Test.YtncpdjlladlalaaEach
import Derived.Deep.AppendLies
import Derived.Deep.RegionLaw
import Derived.Deep.DrawnRows
import Derived.Deep.DeepCutAuto
import Derived.Deep.RegionHeld3
namespace Go.Proofs.Ytncpdjlladlalaa
open Go.RowKit Lox
set_option linter.unusedVariables false
attribute [local go_sem] run_store_flt run_store_fn
attribute [local go_sem ↓] Go.wp_at_zero Go.wp_at_succ

/-- A tree as it lies in memory: of each node its block, the slice of its point, the point's numbers, the radius. -/
inductive BT where
  | nil
  | node (g : Nat) (A : Option Addr) (m c : Nat) (xs : List Nat) (r : Int) (l rt : BT)

/-- In world w, at v, such a tree stands, all of it made from block B on. -/
def BT.In (B : Nat) (w : World) : BT → Value → Prop
  | .nil, v => v = .pointer none
  | .node g A m c xs r l rt, v => v = .pointer (some ⟨g, 0, none⟩) ∧ B ≤ g ∧ (0 < m ∧ m ≤ 1099511627776) ∧ Sl w A m 1 (flts xs) ∧ (∀ b o, A = some ⟨b, o, none⟩ → B ≤ b) ∧
      ∃ lv rv bq, Blk w g 128 [.iface 71 (.slice A m c), .int .i64 r, lv, rv, .pointer bq] ∧ l.In B w lv ∧ rt.In B w rv

/-- The points in order, each with its depth. -/
def BT.visit : BT → Nat → List (List Nat × Int)
  | .nil, _ => []
  | .node _ _ _ _ xs _ l rt, d => l.visit (d + 1) ++ ((xs, (d : Int)) :: rt.visit (d + 1))

theorem BT.In.keep {B B' : Nat} {w w' : World} (hB : B' ≤ B) (hk : ∀ k, B ≤ k → k < w.heap.size → w'.heap[k]? = w.heap[k]?) : ∀ {t : BT} {v : Value}, t.In B w v → t.In B' w' v := by
  intro t
  induction t with
  | nil => intro v h; exact h
  | node g A m c xs r l rt ihl ihr =>
    intro v h
    obtain ⟨e, hg, hm, hs, hA, lv, rv, bq, hb, hl, hr⟩ := h
    refine ⟨e, by omega, hm, ⟨hs.1, fun h0 => ?_⟩, fun b o e => by have := hA b o e; omega, lv, rv, bq, ?_, ihl hl, ihr hr⟩
    · obtain ⟨b, o, e, hc⟩ := hs.2 h0
      exact ⟨b, o, e, fun j u hu => (World.cell?_of_block (hk b (hA b o e) (lt_of_cell (hc j u hu)))).trans (hc j u hu)⟩
    · exact hb.keep hg hk

theorem BT.In.ptr {B : Nat} {w : World} {t : BT} {v : Value} (h : t.In B w v) : ∃ q, v = .pointer q := by
  cases t with
  | nil => exact ⟨_, h⟩
  | node g A m c xs r l rt => exact ⟨_, h.1⟩

theorem BT.In.mod {B B' : Nat} {w w' : World} {t : BT} {v : Value} (h : t.In B w v) (hB : B' ≤ B) (hm : Mod (fun _ => False) w w') : t.In B' w' v := h.keep hB fun k _ hk => hm.block k hk (fun h => h)

theorem BT.In.set {B B' : Nat} {w : World} {t : BT} {v : Value} (h : t.In B w v) (hB : B' ≤ B) {a : Addr} (ha : a.block < B) (u : Value) : t.In B' (w.setCell a u) v := h.keep hB fun k hk _ => Below.heap_setCell _ _ _ _ (by omega)

theorem sl_set {w : World} {A : Option Addr} {n : Nat} {xs : List Value} (h : Sl w A n 1 xs) {a : Addr} (hne : ∀ b o, A = some ⟨b, o, none⟩ → b ≠ a.block) (u : Value) : Sl (w.setCell a u) A n 1 xs := by
  refine ⟨h.1, fun h0 => ?_⟩
  obtain ⟨b, o, e, hc⟩ := h.2 h0
  exact ⟨b, o, e, fun j v hv => (World.cell?_of_block (w := w) (Below.heap_setCell _ _ _ _ (hne b o e))).trans (hc j v hv)⟩

theorem chl_up {C F : Nat → Int} {n : Nat} {c above : Int} {d : Nat} (h0 : -1 ≤ above) (h : above < c) : chl C F n ((c.toNat : Nat) : Int) (-1) d = chl C F n c above d := by
  have e : ((c.toNat : Nat) : Int) = c := by omega
  rw [e]
  unfold chl
  by_cases hc : c < n
  · rw [if_pos ⟨by omega, hc⟩, if_pos ⟨h, hc⟩]
  · rw [if_neg (fun h => hc h.2), if_neg (fun h => hc h.2)]

def PX (xs : List KN) (k : Int) : List Nat := ((xs[k.toNat]?).map fun x => x.p.xs).getD []

/-- The tree that hangs on node i has been made. -/
def TreeTold (xs : List KN) (n : Nat) (i : Nat) (w : World) (e : Ending) (w' : World) : Prop :=
  ∃ (t : BT) (v : Value), e = .returned v ∧ t.In w.heap.size w' v ∧ Mod (fun _ => False) w w' ∧ ∀ d : Nat, t.visit d = (chl (KC xs) (KF xs) n i (-1) d).map fun p => (PX xs p.1, p.2)

set_option maxHeartbeats 2000000 in
theorem kbox_any (A B : Option Addr) (n m c c' : Nat) (xs ys : List Nat) (w : World) (ha : Sl w A n 1 (flts xs)) (hb : Sl w B m 1 (flts ys)) (h : n = 0 ∨ (0 < n ∧ n ≤ 4 ∧ 0 < m ∧ m ≤ 4)) :
    Calls Try.prog 70 #[.slice A n c, .slice B m c'] w fun e w' => (∃ q, e = .returned (.pointer q)) ∧ Mod (fun _ => False) w w' := by
  have H : Hid (Sl w A n 1 (flts xs) ∧ Sl w B m 1 (flts ys)) := ⟨ha, hb⟩
  clear ha hb
  rcases h with h | h
  · subst h
    go_enter Try.func70, Try.ntmps70
    go_wp2
    go_ret
    exact ⟨⟨_, rfl⟩, Mod.refl _ _⟩
  · have hn0 : ((n : Int) == 0) = false := by
      have : (n : Int) ≠ 0 := by omega
      simpa using this
    go_enter Try.func70, Try.ntmps70
    go_wp2_with (first
      | (go_at_call_of 31 (Value.slice A n c); refine (floats_any A n c xs _ H.out.1 (by omega) h.1).mono ?_; rintro _ w2 ⟨A2, c2, rfl, hs2, hm2, hb2⟩)
      | (go_at_call_of 31 (Value.slice B m c'); refine (floats_any B m c' ys _ (H.out.2.mod hm2) (by omega) h.2.2.1).mono ?_; rintro _ w3 ⟨A3, c3, rfl, hs3, hm3, hb3⟩))
    go_ret
    exact ⟨⟨_, rfl⟩, (hm2.trans hm3).alloc _⟩

set_option maxHeartbeats 4000000 in
theorem knode_at (T : Option Addr) (c n : Nat) (xs : List KN) (hn : n = xs.length) (hP : ∀ x ∈ xs, (0 < x.p.n ∧ x.p.n ≤ 4) ∧ (x.mn.n = 0 ∨ (0 < x.mn.n ∧ x.mn.n ≤ 4 ∧ 0 < x.mx.n ∧ x.mx.n ≤ 4))) (fuel : Nat) :
    ∀ (i : Nat) (I : Int) (w : World), I = i → KNodes w T xs → n ≤ i + fuel → Calls Try.prog 58 #[.slice T n c, .int .i64 I] w (TreeTold xs n i w) := by
  induction fuel with
  | zero =>
    intro i I w hI hN hf
    subst hI
    have hi : n ≤ i := by omega
    clear hf hN
    go_enter Try.func58, Try.ntmps58
    go_wp2
    go_ret
    exact ⟨.nil, _, rfl, rfl, Mod.refl _ _, fun d => by rw [chl_none (by omega)]; rfl⟩
  | succ fuel ih =>
    intro i I w hI hN hf
    subst hI
    by_cases hi : n ≤ i
    · clear hf hN ih
      go_enter Try.func58, Try.ntmps58
      go_wp2
      go_ret
      exact ⟨.nil, _, rfl, rfl, Mod.refl _ _, fun d => by rw [chl_none (by omega)]; rfl⟩
    · have IH := Lib.hid ih
      have HN := Lib.hid hN
      clear ih
      have hnl := hN.1
      rw [← hn] at hnl
      obtain ⟨b, o, e, hc⟩ := hN.2.1 (by omega)
      have hk2 : i < xs.length := by omega
      have ex : xs[i]? = some xs[i] := List.getElem?_eq_getElem hk2
      have hx := hc i _ ex
      have hPx := hP _ (List.getElem_mem hk2)
      have hOk := hN.2.2 _ (List.getElem_mem hk2)
      generalize xs[i] = x at hx ex hPx hOk
      have hVC : KC xs i = x.c := by simp [KC, ex]
      have hVF : KF xs i = x.f := by simp [KF, ex]
      have hPX : PX xs (i : Int) = x.p.xs := by simp [PX, ex]
      clear hc hN hk2
      have HN2 := Lib.hid (And.intro hn hP)
      clear hn hP
      obtain ⟨⟨A, m, c', ys⟩, r, cl, fu, ⟨A1, n1, k1, ys1⟩, ⟨A3, n3, k3, ys3⟩⟩ := x
      have hSl : Sl w A m 1 (flts ys) ∧ Sl w A1 n1 1 (flts ys1) ∧ Sl w A3 n3 1 (flts ys3) := ⟨hOk.1.1, hOk.2.1.1, hOk.2.2.1⟩
      simp only at hPx hVC hVF hPX
      have HS := Lib.hid hSl
      obtain ⟨hPx, hPb⟩ := hPx
      have HPB := Lib.hid hPb
      clear hPb
      obtain ⟨c0, c1, c2, c3, c4, c5⟩ := hx
      simp only [Pt.v] at c0 c1 c2 c3 c4 c5
      subst e
      clear hSl hOk
      go_enter Try.func58, Try.ntmps58
      go_wp2_with fail
      go_cut [6] from 19 to 31 (fun p wx => ∃ g A2 c2 bq, p = .pointer (some ⟨g, 0, none⟩) ∧ w.heap.size + 1 ≤ g ∧ Blk wx g 128 [.iface 71 (.slice A2 m c2), .int .i64 r, .pointer none, .pointer none, .pointer bq] ∧ Sl wx A2 m 1 (flts ys) ∧ (∀ b o, A2 = some ⟨b, o, none⟩ → w.heap.size ≤ b ∧ b ≠ g) ∧ Mod (fun _ => False) (w.alloc (.cells #[.slice A m c', .int .i64 r, .int .i64 cl, .int .i64 fu, .slice A1 n1 k1, .slice A3 n3 k3] 43)) wx)
      case first =>
        clear c0 c1 c2 c3 c4 c5
        have B0 := (Blk.new' w #[.slice A m c', .int .i64 r, .int .i64 cl, .int .i64 fu, .slice A1 n1 k1, .slice A3 n3 k3] 43).drew
        have hb0 := B0.lt
        have K4 : ∀ w' : World, Blk w' w.heap.size 43 [.slice A m c', .int .i64 r, .int .i64 cl, .int .i64 fu, .slice A1 n1 k1, .slice A3 n3 k3] → (fun w' => w'.cell? ⟨w.heap.size, 0, none⟩ = some (.slice A m c') ∧ w'.cell? ⟨w.heap.size, 1, none⟩ = some (.int .i64 r) ∧ w'.cell? ⟨w.heap.size, 4, none⟩ = some (.slice A1 n1 k1) ∧ w'.cell? ⟨w.heap.size, 5, none⟩ = some (.slice A3 n3 k3)) w' := fun w' h => ⟨h.at (i := 0) rfl, h.at (i := 1) rfl, h.at (i := 4) rfl, h.at (i := 5) rfl⟩
        have HB0 := Lib.hid B0
        have HK4 := Lib.hid K4
        clear B0 K4
        go_region_held3 (fun w' => w'.cell? ⟨w.heap.size, 0, none⟩ = some (.slice A m c') ∧ w'.cell? ⟨w.heap.size, 1, none⟩ = some (.int .i64 r) ∧ w'.cell? ⟨w.heap.size, 4, none⟩ = some (.slice A1 n1 k1) ∧ w'.cell? ⟨w.heap.size, 5, none⟩ = some (.slice A3 n3 k3)) (first | exact HK4.out _ HB0.out | exact HK4.out _ (HB0.out.mod hma (fun h => h)) | exact HK4.out _ ((HB0.out.mod hma (fun h => h)).alloc _))
          (first
            | (go_at_call 31; first
               | (refine (floats_any A m c' ys _ ((HS.out.1.alloc _).drew) (by omega) hPx.1).mono ?_; rintro _ w2 ⟨A2, cc2, rfl, hs2, hma, hb2⟩; have hsz := hma.size; rw [show ∀ x : World, x.drew.heap.size = x.heap.size from fun _ => rfl, World.size_alloc] at hsz; have hb2' : ∀ b o, A2 = some ⟨b, o, none⟩ → w.heap.size + 1 ≤ b := fun b o e => by have := hb2 b o e; rw [show ∀ x : World, x.drew.heap.size = x.heap.size from fun _ => rfl, World.size_alloc] at this; exact this)
               | (refine (floats_any A m c' ys _ (((HS.out.1.alloc _).drew).mod hma) (by omega) hPx.1).mono ?_; rintro _ w2 ⟨A2, cc2, rfl, hs2, hmb, hb2⟩; have hmc := hma; clear hma; have hma := hmc.trans hmb; have hsz := hma.size; rw [show ∀ x : World, x.drew.heap.size = x.heap.size from fun _ => rfl, World.size_alloc] at hsz; have hb2' : ∀ b o, A2 = some ⟨b, o, none⟩ → w.heap.size + 1 ≤ b := fun b o e => by have := hb2 b o e; have := hmc.size; rw [show ∀ x : World, x.drew.heap.size = x.heap.size from fun _ => rfl, World.size_alloc] at this; omega))
            | (go_at_call 70; first
               | (refine (kbox_any A1 A3 n1 n3 k1 k3 ys1 ys3 _ ((HS.out.2.1.alloc _).drew) ((HS.out.2.2.alloc _).drew) HPB.out).mono ?_; rintro _ w4 ⟨⟨bq, rfl⟩, hma⟩)
               | (refine (kbox_any A1 A3 n1 n3 k1 k3 ys1 ys3 _ (((HS.out.2.1.alloc _).drew).mod hma) (((HS.out.2.2.alloc _).drew).mod hma) HPB.out).mono ?_; rintro _ w4 ⟨⟨bq, rfl⟩, hmb⟩; have hsx := hs2; clear hs2; have hs2 := hsx.mod hmb; have hmc := hma; clear hma; have hma := hmc.trans hmb; have hsz := hma.size; rw [show ∀ x : World, x.drew.heap.size = x.heap.size from fun _ => rfl, World.size_alloc] at hsz)))
        all_goals
          go_wp2_with fail
          go_meet
          exact ⟨_, A2, cc2, bq, rfl, (by omega), Blk.new' _ _ _, hs2.alloc _, fun b o e => ⟨(by have := hb2' b o e; omega), (by have := hs2.far (by omega) hPx.1 b o e; omega)⟩, (((Mod.refl _ _).drew).trans hma).alloc _⟩
      case rest =>
        obtain ⟨g, A2, C2, bq, rfl, hg, hb, hs2, hA2, hm⟩ := hcut
        have hB0 : Blk wc w.heap.size 43 [.slice A m c', .int .i64 r, .int .i64 cl, .int .i64 fu, .slice A1 n1 k1, .slice A3 n3 k3] := (Blk.new' w #[.slice A m c', .int .i64 r, .int .i64 cl, .int .i64 fu, .slice A1 n1 k1, .slice A3 n3 k3] 43).mod hm (fun h => h)
        have hmw : Mod (fun _ => False) w wc := ((Mod.refl _ _).alloc _).trans hm
        have hgl := hb.lt
        have j2 := hB0.at (i := 2) rfl
        have j3 := hB0.at (i := 3) rfl
        clear hm
        have K : Hid (Blk wc g 128 [.iface 71 (.slice A2 m C2), .int .i64 r, .pointer none, .pointer none, .pointer bq] ∧ Sl wc A2 m 1 (flts ys) ∧ (∀ b o, A2 = some ⟨b, o, none⟩ → w.heap.size ≤ b ∧ b ≠ g) ∧ Blk wc w.heap.size 43 [.slice A m c', .int .i64 r, .int .i64 cl, .int .i64 fu, .slice A1 n1 k1, .slice A3 n3 k3] ∧ Mod (fun _ => False) w wc) := ⟨hb, hs2, hA2, hB0, hmw⟩
        clear hb hs2 hA2 hB0 hmw
        go_upto_if 35 with fail
        go_cut [] from 35 to 42 (fun wx => ∃ (lv : Value) (t1 : BT), Blk wx g 128 [.iface 71 (.slice A2 m C2), .int .i64 r, lv, .pointer none, .pointer bq] ∧ t1.In (g + 1) wx lv ∧ Blk wx w.heap.size 43 [.slice A m c', .int .i64 r, .int .i64 cl, .int .i64 fu, .slice A1 n1 k1, .slice A3 n3 k3] ∧ Sl wx A2 m 1 (flts ys) ∧ Mod (fun _ => False) w wx ∧ ∀ d : Nat, t1.visit d = (chl (KC xs) (KF xs) n cl i d).map fun p => (PX xs p.1, p.2))
        case first =>
          by_cases h1 : (i : Int) < cl
          · go_wp2_with (go_at_call 58; refine (IH.out cl.toNat cl wc (by omega) (HN.out.mod K.out.2.2.2.2) (by omega)).mono ?_; rintro _ w3 ⟨t1, lv, rfl, ht1, hm1, hv1⟩; obtain ⟨q1, rfl⟩ := ht1.ptr; have y2 : w3.cell? ⟨g, 2, none⟩ = some (.pointer none) := ((K.out.1.mod hm1 (fun h => h)).at (i := 2) rfl); have z2 : w3.frozen? ⟨g, 2, none⟩ = false := ((K.out.1.mod hm1 (fun h => h)).frozen 2))
            go_meet
            have b3 := K.out.1.mod hm1 (fun h => h)
            have hmw : Mod (fun _ => False) w w3 := K.out.2.2.2.2.trans hm1
            exact ⟨.pointer q1, t1, b3.set 2 (.pointer q1), ht1.set (by omega) hgl _, (K.out.2.2.2.1.mod hm1 (fun h => h)).other _ (by show g ≠ w.heap.size; omega), sl_set (K.out.2.1.mod hm1) (fun b o e => (K.out.2.2.1 b o e).2) _, hmw.set (.inr (by show w.heap.size ≤ g; omega)) _, fun d => (hv1 d).trans (by rw [chl_up (above := (i : Int)) (c := cl) (by omega) h1])⟩
          · go_wp2_with fail
            go_meet
            exact ⟨_, .nil, K.out.1, rfl, K.out.2.2.2.1, K.out.2.1, K.out.2.2.2.2, fun d => by rw [chl_none (by omega)]; rfl⟩
        case rest =>
          obtain ⟨lv, t1, hb1, ht1, hB1, hs1, hm1, hv1⟩ := hcut
          have q1 := hB1.at (i := 3) rfl
          have K2 : Hid (Blk wc g 128 [.iface 71 (.slice A2 m C2), .int .i64 r, lv, .pointer none, .pointer bq] ∧ t1.In (g + 1) wc lv ∧ Sl wc A2 m 1 (flts ys) ∧ Mod (fun _ => False) w wc ∧ ∀ d : Nat, t1.visit d = (chl (KC xs) (KF xs) n cl i d).map fun p => (PX xs p.1, p.2)) := ⟨hb1, ht1, hs1, hm1, hv1⟩
          have hgl2 := hb1.lt
          clear hb1 ht1 hB1 hs1 hm1 hv1 j2 j3
          have hlist : ∀ d : Nat, (chl (KC xs) (KF xs) n i (-1) d).map (fun p => (PX xs p.1, p.2)) = (chl (KC xs) (KF xs) n cl i (d + 1)).map (fun p => (PX xs p.1, p.2)) ++ ((ys, (d : Int)) :: (chl (KC xs) (KF xs) n fu i (d + 1)).map fun p => (PX xs p.1, p.2)) := fun d => by
            rw [chl_node (by omega) (by omega), hVC, hVF]
            simp [hPX]
          have HL := Lib.hid hlist
          clear hlist
          by_cases h2 : (i : Int) < fu
          · go_wp2_with (go_at_call 58; refine (IH.out fu.toNat fu wc (by omega) (HN.out.mod K2.out.2.2.2.1) (by omega)).mono ?_; rintro _ w3 ⟨t2, rv, rfl, ht2, hm2, hv2⟩; obtain ⟨q2, rfl⟩ := ht2.ptr; have y2 : w3.cell? ⟨g, 3, none⟩ = some (.pointer none) := ((K2.out.1.mod hm2 (fun h => h)).at (i := 3) rfl); have z2 : w3.frozen? ⟨g, 3, none⟩ = false := ((K2.out.1.mod hm2 (fun h => h)).frozen 3))
            go_ret
            obtain ⟨e1, e2, e3, e4, e5⟩ := K2.out
            exact ⟨.node g A2 m C2 ys r t1 t2, _, rfl, ⟨rfl, by omega, ⟨hPx.1, by omega⟩, sl_set (e3.mod hm2) (fun b o e => (K.out.2.2.1 b o e).2) _, fun b o e => (K.out.2.2.1 b o e).1, lv, .pointer q2, bq, (e1.mod hm2 (fun h => h)).set 3 (.pointer q2), (e2.mod (Nat.le_refl _) hm2).set (by omega) (by show g < g + 1; omega) _, ht2.set (by have := e4.size; omega) hgl2 _⟩, (e4.trans hm2).set (.inr (by show w.heap.size ≤ g; omega)) _, fun d => by
              rw [HL.out d, BT.visit, e5, hv2, chl_up (above := (i : Int)) (c := fu) (by omega) h2]⟩
          · go_wp2_with fail
            go_ret
            obtain ⟨e1, e2, e3, e4, e5⟩ := K2.out
            exact ⟨.node g A2 m C2 ys r t1 .nil, _, rfl, ⟨rfl, by omega, ⟨hPx.1, by omega⟩, e3, fun b o e => (K.out.2.2.1 b o e).1, lv, _, bq, e1, e2.mod (by omega) (Mod.refl _ _), rfl⟩, e4, fun d => by
              rw [HL.out d, BT.visit, e5, chl_none (c := fu) (by omega)]; rfl⟩
end Go.Proofs.Ytncpdjlladlalaa
