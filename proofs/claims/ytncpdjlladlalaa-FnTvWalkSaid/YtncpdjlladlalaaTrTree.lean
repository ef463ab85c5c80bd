/- Vantage-point trees in memory, and the walk that makes one. Conditions: as each says. -/
import Derived.Test.YtncpdjlladlalaaTrFl
import Derived.Test.YtncpdjlladlalaaIno
import Derived.Test.YtncpdjlladlalaaEach
import Derived.Deep.AppendLies
import Derived.Deep.RegionLaw
import Derived.Deep.DrawnRows
import Derived.Deep.DeepCutAuto
namespace Go.Proofs.Ytncpdjlladlalaa
open Go.RowKit Lox
set_option linter.unusedVariables false
attribute [local go_sem] run_store_flt run_store_fn
attribute [local go_sem ↓] Go.wp_at_zero Go.wp_at_succ

/-- A tree as it lies in memory: of each node its block, the slice of its point, the point's numbers, the radius. -/
inductive BT where
  | nil
  | node (g : Nat) (A : Option Addr) (m c : Nat) (xs : List Nat) (r : Nat) (l rt : BT)

/-- In world w, at v, such a tree stands, all of it made from block B on. -/
def BT.In (B : Nat) (w : World) : BT → Value → Prop
  | .nil, v => v = .pointer none
  | .node g A m c xs r l rt, v => v = .pointer (some ⟨g, 0, none⟩) ∧ B ≤ g ∧ (0 < m ∧ m ≤ 1099511627776) ∧ Sl w A m 1 (flts xs) ∧ (∀ b o, A = some ⟨b, o, none⟩ → B ≤ b) ∧
      ∃ lv rv, Blk w g 124 [.iface 61 (.slice A m c), .float .f64 r, lv, rv] ∧ l.In B w lv ∧ rt.In B w rv

/-- The points in order, each with its depth. -/
def BT.visit : BT → Nat → List (List Nat × Int)
  | .nil, _ => []
  | .node _ _ _ _ xs _ l rt, d => l.visit (d + 1) ++ ((xs, (d : Int)) :: rt.visit (d + 1))

theorem BT.In.keep {B B' : Nat} {w w' : World} (hB : B' ≤ B) (hk : ∀ k, B ≤ k → k < w.heap.size → w'.heap[k]? = w.heap[k]?) : ∀ {t : BT} {v : Value}, t.In B w v → t.In B' w' v := by
  intro t
  induction t with
  | nil => intro v h; exact h
  | node g A m c xs r l rt ihl ihr =>
    intro v h
    obtain ⟨e, hg, hm, hs, hA, lv, rv, hb, hl, hr⟩ := h
    refine ⟨e, by omega, hm, ⟨hs.1, fun h0 => ?_⟩, fun b o e => by have := hA b o e; omega, lv, rv, ?_, ihl hl, ihr hr⟩
    · obtain ⟨b, o, e, hc⟩ := hs.2 h0
      exact ⟨b, o, e, fun j u hu => (World.cell?_of_block (hk b (hA b o e) (lt_of_cell (hc j u hu)))).trans (hc j u hu)⟩
    · exact hb.keep hg hk

theorem BT.In.ptr {B : Nat} {w : World} {t : BT} {v : Value} (h : t.In B w v) : ∃ q, v = .pointer q := by
  cases t with
  | nil => exact ⟨_, h⟩
  | node g A m c xs r l rt => exact ⟨_, h.1⟩

theorem BT.In.mod {B B' : Nat} {w w' : World} {t : BT} {v : Value} (h : t.In B w v) (hB : B' ≤ B) (hm : Mod (fun _ => False) w w') : t.In B' w' v := h.keep hB fun k _ hk => hm.block k hk (fun h => h)

theorem BT.In.set {B B' : Nat} {w : World} {t : BT} {v : Value} (h : t.In B w v) (hB : B' ≤ B) {a : Addr} (ha : a.block < B) (u : Value) : t.In B' (w.setCell a u) v := h.keep hB fun k hk _ => Below.heap_setCell _ _ _ _ (by omega)

theorem sl_set {w : World} {A : Option Addr} {n : Nat} {xs : List Value} (h : Sl w A n 1 xs) {a : Addr} (hne : ∀ b o, A = some ⟨b, o, none⟩ → b ≠ a.block) (u : Value) : Sl (w.setCell a u) A n 1 xs := by
  refine ⟨h.1, fun h0 => ?_⟩
  obtain ⟨b, o, e, hc⟩ := h.2 h0
  exact ⟨b, o, e, fun j v hv => (World.cell?_of_block (w := w) (Below.heap_setCell _ _ _ _ (hne b o e))).trans (hc j v hv)⟩

theorem chl_up {C F : Nat → Int} {n : Nat} {c above : Int} {d : Nat} (h0 : -1 ≤ above) (h : above < c) : chl C F n ((c.toNat : Nat) : Int) (-1) d = chl C F n c above d := by
  have e : ((c.toNat : Nat) : Int) = c := by omega
  rw [e]
  unfold chl
  by_cases hc : c < n
  · rw [if_pos ⟨by omega, hc⟩, if_pos ⟨h, hc⟩]
  · rw [if_neg (fun h => hc h.2), if_neg (fun h => hc h.2)]

def PX (xs : List VN) (k : Int) : List Nat := ((xs[k.toNat]?).map fun x => x.p.xs).getD []

/-- The tree that hangs on node i has been made. -/
def TreeTold (xs : List VN) (n : Nat) (i : Nat) (w : World) (e : Ending) (w' : World) : Prop :=
  ∃ (t : BT) (v : Value), e = .returned v ∧ t.In w.heap.size w' v ∧ Mod (fun _ => False) w w' ∧ ∀ d : Nat, t.visit d = (chl (VC xs) (VF xs) n i (-1) d).map fun p => (PX xs p.1, p.2)

set_option maxHeartbeats 4000000 in
theorem vnode_at (T : Option Addr) (c n : Nat) (xs : List VN) (hn : n = xs.length) (hP : ∀ x ∈ xs, 0 < x.p.n ∧ x.p.n ≤ 4) (fuel : Nat) :
    ∀ (i : Nat) (I : Int) (w : World), I = i → Nodes w T xs → n ≤ i + fuel → Calls Try.prog 55 #[.slice T n c, .int .i64 I] w (TreeTold xs n i w) := by
  induction fuel with
  | zero =>
    intro i I w hI hN hf
    subst hI
    have hi : n ≤ i := by omega
    clear hf hN
    go_enter Try.func55, Try.ntmps55
    go_wp2
    go_ret
    exact ⟨.nil, _, rfl, rfl, Mod.refl _ _, fun d => by rw [chl_none (by omega)]; rfl⟩
  | succ fuel ih =>
    intro i I w hI hN hf
    subst hI
    by_cases hi : n ≤ i
    · clear hf hN ih
      go_enter Try.func55, Try.ntmps55
      go_wp2
      go_ret
      exact ⟨.nil, _, rfl, rfl, Mod.refl _ _, fun d => by rw [chl_none (by omega)]; rfl⟩
    · have IH := Lib.hid ih
      have HN := Lib.hid hN
      clear ih
      have hnl := hN.1
      rw [← hn] at hnl
      obtain ⟨b, o, e, hc⟩ := hN.2.1 (by omega)
      have hk2 : i < xs.length := by omega
      have ex : xs[i]? = some xs[i] := List.getElem?_eq_getElem hk2
      have hx := hc i _ ex
      have hPx := hP _ (List.getElem_mem hk2)
      have hOk := hN.2.2 _ (List.getElem_mem hk2)
      generalize xs[i] = x at hx ex hPx hOk
      have hVC : VC xs i = x.c := by simp [VC, ex]
      have hVF : VF xs i = x.f := by simp [VF, ex]
      have hPX : PX xs (i : Int) = x.p.xs := by simp [PX, ex]
      clear hc hN hk2
      have HN2 := Lib.hid (And.intro hn hP)
      clear hn hP
      obtain ⟨⟨A, m, c', ys⟩, r, cl, fu⟩ := x
      have hSl : Sl w A m 1 (flts ys) := hOk.1
      simp only at hPx hVC hVF hPX
      have HS := Lib.hid hSl
      obtain ⟨c0, c1, c2, c3⟩ := hx
      simp only [Pt.v] at c0 c1 c2 c3
      subst e
      clear hSl hOk
      go_enter Try.func55, Try.ntmps55
      go_wp2_with fail
      go_cut [6] from 19 to 26 (fun p wx => ∃ g A2 c2, p = .pointer (some ⟨g, 0, none⟩) ∧ w.heap.size + 1 ≤ g ∧ Blk wx g 124 [.iface 61 (.slice A2 m c2), .float .f64 r, .pointer none, .pointer none] ∧ Sl wx A2 m 1 (flts ys) ∧ (∀ b o, A2 = some ⟨b, o, none⟩ → w.heap.size ≤ b ∧ b ≠ g) ∧ Mod (fun _ => False) (w.alloc (.cells #[.slice A m c', .float .f64 r, .int .i64 cl, .int .i64 fu] 30)) wx)
      case first =>
        clear c0 c1 c2 c3
        go_region_with (go_at_call 31; refine (floats_any A m c' ys _ ((HS.out.alloc _).drew) (by omega) hPx.1).mono ?_; rintro _ w2 ⟨A2, cc2, rfl, hs2, hm2, hb2⟩; have k1 : w2.cell? ⟨w.heap.size, 1, none⟩ = some (.float .f64 r) := ((((Blk.new' w #[.slice A m c', .float .f64 r, .int .i64 cl, .int .i64 fu] 30).drew).mod hm2 (fun h => h)).at (i := 1) rfl))
        all_goals
          go_wp2_with fail
          go_meet
          exact ⟨_, A2, cc2, rfl, (by have := hm2.size; simp at this; omega), Blk.new' _ _ _, hs2.alloc _, fun b o e => ⟨(by have := hb2 b o e; simp at this; omega), (by have := hs2.far (by omega) hPx.1 b o e; omega)⟩, (((Mod.refl _ _).drew).trans hm2).alloc _⟩
      case rest =>
        obtain ⟨g, A2, C2, rfl, hg, hb, hs2, hA2, hm⟩ := hcut
        have hB0 : Blk wc w.heap.size 30 [.slice A m c', .float .f64 r, .int .i64 cl, .int .i64 fu] := (Blk.new' w #[.slice A m c', .float .f64 r, .int .i64 cl, .int .i64 fu] 30).mod hm (fun h => h)
        have hmw : Mod (fun _ => False) w wc := ((Mod.refl _ _).alloc _).trans hm
        have hgl := hb.lt
        have j2 := hB0.at (i := 2) rfl
        have j3 := hB0.at (i := 3) rfl
        clear hm
        have K : Hid (Blk wc g 124 [.iface 61 (.slice A2 m C2), .float .f64 r, .pointer none, .pointer none] ∧ Sl wc A2 m 1 (flts ys) ∧ (∀ b o, A2 = some ⟨b, o, none⟩ → w.heap.size ≤ b ∧ b ≠ g) ∧ Blk wc w.heap.size 30 [.slice A m c', .float .f64 r, .int .i64 cl, .int .i64 fu] ∧ Mod (fun _ => False) w wc) := ⟨hb, hs2, hA2, hB0, hmw⟩
        clear hb hs2 hA2 hB0 hmw
        go_upto_if 30 with fail
        go_cut [] from 30 to 37 (fun wx => ∃ (lv : Value) (t1 : BT), Blk wx g 124 [.iface 61 (.slice A2 m C2), .float .f64 r, lv, .pointer none] ∧ t1.In (g + 1) wx lv ∧ Blk wx w.heap.size 30 [.slice A m c', .float .f64 r, .int .i64 cl, .int .i64 fu] ∧ Sl wx A2 m 1 (flts ys) ∧ Mod (fun _ => False) w wx ∧ ∀ d : Nat, t1.visit d = (chl (VC xs) (VF xs) n cl i d).map fun p => (PX xs p.1, p.2))
        case first =>
          by_cases h1 : (i : Int) < cl
          · go_wp2_with (go_at_call 55; refine (IH.out cl.toNat cl wc (by omega) (HN.out.mod K.out.2.2.2.2) (by omega)).mono ?_; rintro _ w3 ⟨t1, lv, rfl, ht1, hm1, hv1⟩; obtain ⟨q1, rfl⟩ := ht1.ptr; have y2 : w3.cell? ⟨g, 2, none⟩ = some (.pointer none) := ((K.out.1.mod hm1 (fun h => h)).at (i := 2) rfl); have z2 : w3.frozen? ⟨g, 2, none⟩ = false := ((K.out.1.mod hm1 (fun h => h)).frozen 2))
            go_meet
            have b3 := K.out.1.mod hm1 (fun h => h)
            have hmw : Mod (fun _ => False) w w3 := K.out.2.2.2.2.trans hm1
            exact ⟨.pointer q1, t1, b3.set 2 (.pointer q1), ht1.set (by omega) hgl _, (K.out.2.2.2.1.mod hm1 (fun h => h)).other _ (by show g ≠ w.heap.size; omega), sl_set (K.out.2.1.mod hm1) (fun b o e => (K.out.2.2.1 b o e).2) _, hmw.set (.inr (by show w.heap.size ≤ g; omega)) _, fun d => (hv1 d).trans (by rw [chl_up (above := (i : Int)) (c := cl) (by omega) h1])⟩
          · go_wp2_with fail
            go_meet
            exact ⟨_, .nil, K.out.1, rfl, K.out.2.2.2.1, K.out.2.1, K.out.2.2.2.2, fun d => by rw [chl_none (by omega)]; rfl⟩
        case rest =>
          obtain ⟨lv, t1, hb1, ht1, hB1, hs1, hm1, hv1⟩ := hcut
          have q1 := hB1.at (i := 3) rfl
          have K2 : Hid (Blk wc g 124 [.iface 61 (.slice A2 m C2), .float .f64 r, lv, .pointer none] ∧ t1.In (g + 1) wc lv ∧ Sl wc A2 m 1 (flts ys) ∧ Mod (fun _ => False) w wc ∧ ∀ d : Nat, t1.visit d = (chl (VC xs) (VF xs) n cl i d).map fun p => (PX xs p.1, p.2)) := ⟨hb1, ht1, hs1, hm1, hv1⟩
          have hgl2 := hb1.lt
          clear hb1 ht1 hB1 hs1 hm1 hv1 j2 j3
          have hlist : ∀ d : Nat, (chl (VC xs) (VF xs) n i (-1) d).map (fun p => (PX xs p.1, p.2)) = (chl (VC xs) (VF xs) n cl i (d + 1)).map (fun p => (PX xs p.1, p.2)) ++ ((ys, (d : Int)) :: (chl (VC xs) (VF xs) n fu i (d + 1)).map fun p => (PX xs p.1, p.2)) := fun d => by
            rw [chl_node (by omega) (by omega), hVC, hVF]
            simp [hPX]
          have HL := Lib.hid hlist
          clear hlist
          by_cases h2 : (i : Int) < fu
          · go_wp2_with (go_at_call 55; refine (IH.out fu.toNat fu wc (by omega) (HN.out.mod K2.out.2.2.2.1) (by omega)).mono ?_; rintro _ w3 ⟨t2, rv, rfl, ht2, hm2, hv2⟩; obtain ⟨q2, rfl⟩ := ht2.ptr; have y2 : w3.cell? ⟨g, 3, none⟩ = some (.pointer none) := ((K2.out.1.mod hm2 (fun h => h)).at (i := 3) rfl); have z2 : w3.frozen? ⟨g, 3, none⟩ = false := ((K2.out.1.mod hm2 (fun h => h)).frozen 3))
            go_ret
            obtain ⟨e1, e2, e3, e4, e5⟩ := K2.out
            exact ⟨.node g A2 m C2 ys r t1 t2, _, rfl, ⟨rfl, by omega, ⟨hPx.1, by omega⟩, sl_set (e3.mod hm2) (fun b o e => (K.out.2.2.1 b o e).2) _, fun b o e => (K.out.2.2.1 b o e).1, lv, .pointer q2, (e1.mod hm2 (fun h => h)).set 3 (.pointer q2), (e2.mod (Nat.le_refl _) hm2).set (by omega) (by show g < g + 1; omega) _, ht2.set (by have := e4.size; omega) hgl2 _⟩, (e4.trans hm2).set (.inr (by show w.heap.size ≤ g; omega)) _, fun d => by
              rw [HL.out d, BT.visit, e5, hv2, chl_up (above := (i : Int)) (c := fu) (by omega) h2]⟩
          · go_wp2_with fail
            go_ret
            obtain ⟨e1, e2, e3, e4, e5⟩ := K2.out
            exact ⟨.node g A2 m C2 ys r t1 .nil, _, rfl, ⟨rfl, by omega, ⟨hPx.1, by omega⟩, e3, fun b o e => (K.out.2.2.1 b o e).1, lv, _, e1, e2.mod (by omega) (Mod.refl _ _), rfl⟩, e4, fun d => by
              rw [HL.out d, BT.visit, e5, chl_none (c := fu) (by omega)]; rfl⟩
end Go.Proofs.Ytncpdjlladlalaa
