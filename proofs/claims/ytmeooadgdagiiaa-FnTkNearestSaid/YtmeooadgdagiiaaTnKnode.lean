/- The walk that makes a k-d tree of nodes that are written down. Conditions: as it says. -/
import Derived.Test.YtmeooadgdagiiaaTbNodes
import Derived.Test.YtmeooadgdagiiaaTbKn
import Derived.Deep.RegionHeld3
import Derived.Deep.DrawnRows
import Derived.Deep.DeepCutAuto
namespace Lox.KB
variable {α β : Type}
def T.map (f : α → β) : T α → T β
  | .nil => .nil
  | .node p d l r => .node (f p) d (l.map f) (r.map f)

theorem T.map_all (f : α → β) : ∀ t : T α, (t.map f).all = t.all.map f := by
  intro t
  induction t with
  | nil => rfl
  | node p d l r ihl ihr => simp only [T.map, T.all, ihl, ihr, List.map_append, List.map_cons]
end Lox.KB
namespace Go.Proofs.Ytmeooadgdagiiaa
open Go.RowKit Lox
set_option linter.unusedVariables false
attribute [local go_sem] run_store_flt run_store_fn
attribute [local go_sem ↓] Go.wp_at_zero Go.wp_at_succ

set_option maxHeartbeats 2000000 in
theorem kbox_ptr (A B : Option Addr) (n m c c' : Nat) (xs ys : List Nat) (w : World) (ha : Sl w A n 1 (flts xs)) (hb : Sl w B m 1 (flts ys)) (h : n = 0 ∨ (0 < n ∧ n ≤ 4 ∧ 0 < m ∧ m ≤ 4)) :
    Calls Try.prog 47 #[.slice A n c, .slice B m c'] w fun e w' => (∃ q bx, e = .returned (.pointer q) ∧ boxV bx = .pointer q) ∧ Mod (fun _ => False) w w' := by
  have H : Hid (Sl w A n 1 (flts xs) ∧ Sl w B m 1 (flts ys)) := ⟨ha, hb⟩
  clear ha hb
  rcases h with h | h
  · subst h
    go_enter Try.func47, Try.ntmps47
    go_wp2
    go_ret
    exact ⟨⟨_, none, rfl, rfl⟩, Mod.refl _ _⟩
  · have hn0 : ((n : Int) == 0) = false := by
      have : (n : Int) ≠ 0 := by omega
      simpa using this
    go_enter Try.func47, Try.ntmps47
    go_wp2_with (first
      | (go_at_call_of 33 (Value.slice A n c); refine (floats_any A n c xs _ H.out.1 (by omega) h.1).mono ?_; rintro _ w2 ⟨A2, c2, rfl, hs2, hm2, hb2⟩)
      | (go_at_call_of 33 (Value.slice B m c'); refine (floats_any B m c' ys _ (H.out.2.mod hm2) (by omega) h.2.2.1).mono ?_; rintro _ w3 ⟨A3, c3, rfl, hs3, hm3, hb3⟩))
    go_ret
    exact ⟨⟨_, some ⟨_, ⟨none, 0, []⟩, ⟨none, 0, []⟩⟩, rfl, rfl⟩, (hm2.trans hm3).alloc _⟩

/-- In the rows, from place i on, the tree is written down. -/
def Seg (rs : List KR) (mt : MT) (i : Nat) : Prop := ∀ j x, (mt.flat i)[j]? = some x → ∃ y, rs[i + j]? = some y ∧ y.plain = x

theorem seg_root {rs : List KR} {mt : MT} (h : rs.map KR.plain = mt.flat 0) : Seg rs mt 0 := by
  intro j x hx
  rw [← h, List.getElem?_map] at hx
  rw [Nat.zero_add]
  cases hr : rs[j]? with
  | none => rw [hr] at hx; simp at hx
  | some y => rw [hr] at hx; simp only [Option.map_some, Option.some.injEq] at hx; exact ⟨y, rfl, hx⟩

theorem Seg.left {rs : List KR} {g d i : Nat} {p : TP} {bx : Option BX} {l r : MT} (h : Seg rs (.node g p d bx l r) i) : Seg rs l (i + 1) := by
  intro j x hx
  have hj := (List.getElem?_eq_some_iff.1 hx).1
  have e : i + 1 + j = i + (j + 1) := by omega
  rw [e]
  refine h (j + 1) x ?_
  simp only [MT.flat, List.getElem?_cons_succ]
  rw [List.getElem?_append_left hj]
  exact hx

theorem Seg.right {rs : List KR} {g d i : Nat} {p : TP} {bx : Option BX} {l r : MT} (h : Seg rs (.node g p d bx l r) i) : Seg rs r (i + 1 + l.count) := by
  intro j x hx
  have e : i + 1 + l.count + j = i + (l.count + j + 1) := by omega
  rw [e]
  refine h (l.count + j + 1) x ?_
  simp only [MT.flat, List.getElem?_cons_succ]
  rw [List.getElem?_append_right (by rw [MT.flat_len]; omega), MT.flat_len, show l.count + j - l.count = j from by omega]
  exact hx

/-- The tree has been made. -/
def KnMade (dims : Nat) (mt : MT) (w : World) (e : Ending) (w' : World) : Prop :=
  ∃ (v : Value) (mt' : MT), e = .returned v ∧ mt'.In w' v ∧ mt'.T.map TP.xs = mt.T.map TP.xs ∧ (∀ g ∈ mt'.gs, w.heap.size ≤ g) ∧ (∀ p ∈ mt'.pts, p.Ok w' dims) ∧ Mod (fun _ => False) w w'

theorem MT.at_lt {mt : MT} {i : Nat} (h : ¬ (i : Int) < mt.at (i + 1)) : mt = .nil := by
  cases mt with
  | nil => rfl
  | node g p d bx l r => exact absurd (by show (i : Int) < ((i + 1 : Nat) : Int); omega) h

theorem MT.at_lt2 {mt : MT} {i k : Nat} (h : ¬ (i : Int) < mt.at (i + 1 + k)) : mt = .nil := by
  cases mt with
  | nil => rfl
  | node g p d bx l r => exact absurd (by show (i : Int) < ((i + 1 + k : Nat) : Int); omega) h

theorem noflt_node {w : World} {g pl : Nat} {p : TP} {ql qr : Option Addr} {bx : Option BX} (h : Blk w g 122 (nodeCells p pl (.pointer ql) (.pointer qr) bx)) : NoFlt w g := by
  intro o x hc
  rw [h.cell] at hc
  have hm := List.mem_of_getElem? hc
  unfold nodeCells boxV at hm
  cases bx <;> simp at hm

theorem TP.Ok.setNode {w : World} {dims g pl i : Nat} {p q : TP} {ql qr : Option Addr} {bx : Option BX} (hp : p.Ok w dims) (h : Blk w g 122 (nodeCells q pl (.pointer ql) (.pointer qr) bx)) (v : Value) : p.Ok (w.setCell ⟨g, i, none⟩ v) dims :=
  hp.noFlt (S := fun k => k = g) ((Mod.refl (fun k => k = g) w).set (p := ⟨g, i, none⟩) (.inl rfl) v) fun k _ e => by subst e; exact noflt_node h

theorem MT.In.setOff {w : World} {t : MT} {v : Value} {g i : Nat} (h : t.In w v) (hg : ∀ k ∈ t.gs, g < k) (u : Value) : t.In (w.setCell ⟨g, i, none⟩ u) v :=
  h.keep fun k hk _ => Below.heap_setCell _ _ _ _ (by show k ≠ g; have := hg k hk; omega)

set_option maxRecDepth 100000 in
set_option maxHeartbeats 8000000 in
theorem knode2_at (A : Option Addr) (c n dims B : Nat) (rs : List KR) (hdm : 0 < dims ∧ dims ≤ 4) (hn : n = rs.length) (hbx : ∀ x ∈ rs, x.mn.xs = [] ∨ (x.mn.xs.length = dims ∧ x.mx.xs.length = dims)) (mt : MT) :
    ∀ (i : Nat) (I : Int) (w : World), I = mt.at i → KS B w dims (.slice A n c) rs → Seg rs mt i → Calls Try.prog 66 #[.slice A n c, .int .i64 I] w (KnMade dims mt w) := by
  induction mt with
  | nil =>
    intro i I w hI hK hS
    have hI : I = -1 := hI
    subst hI
    clear hK hS
    go_enter Try.func66, Try.ntmps66
    go_wp2
    go_ret
    exact ⟨_, .nil, rfl, rfl, rfl, (fun g hg => by cases hg), (fun p hp => by cases hp), Mod.refl _ _⟩
  | node g0 p pl bx0 l r ihl ihr =>
    intro i I w hI hK hS
    have hI2 : I = (i : Int) := hI
    clear hI
    subst hI2
    obtain ⟨x, hxr, hxp⟩ := hS 0 _ rfl
    rw [Nat.add_zero] at hxr
    have hil := (List.getElem?_eq_some_iff.1 hxr).1
    obtain ⟨gb, cap, e5, -, -⟩ := hK.own.form (by omega)
    injection e5 with e5 e6 e7
    subst e5
    have hkc := fun (j : Nat) (hj : j < 6) => (hK.cell hn hxr (j := j) hj).1
    have hok := hK.ok x (List.mem_of_getElem? hxr)
    have hbxx := hbx x (List.mem_of_getElem? hxr)
    have hSl := hS.left
    have hSr := hS.right
    obtain ⟨⟨A0, cc0, xs⟩, plx, cl, fu, ⟨A1, k1, ys1⟩, ⟨A3, k3, ys3⟩⟩ := x
    simp only [KR.plain, PR.mk.injEq] at hxp
    obtain ⟨exs, epl, ecl, efu, -, -⟩ := hxp
    have hxl : xs.length = dims := hok.1.1.1
    obtain ⟨n1, en1⟩ : ∃ n1, n1 = ys1.length := ⟨_, rfl⟩
    obtain ⟨n3, en3⟩ : ∃ n3, n3 = ys3.length := ⟨_, rfl⟩
    have c0 : w.cell? ⟨gb, i * 6, none⟩ = some (.slice A0 dims cc0) := by
      have h := hkc 0 (by omega)
      rw [Nat.add_zero] at h
      rw [h, ← hxl]; rfl
    have c1 : w.cell? ⟨gb, i * 6 + 1, none⟩ = some (.int .i64 plx) := hkc 1 (by omega)
    have c2 : w.cell? ⟨gb, i * 6 + 2, none⟩ = some (.int .i64 cl) := hkc 2 (by omega)
    have c3 : w.cell? ⟨gb, i * 6 + 3, none⟩ = some (.int .i64 fu) := hkc 3 (by omega)
    have c4 : w.cell? ⟨gb, i * 6 + 4, none⟩ = some (.slice A1 n1 k1) := by rw [hkc 4 (by omega), en1]; rfl
    have c5 : w.cell? ⟨gb, i * 6 + 5, none⟩ = some (.slice A3 n3 k3) := by rw [hkc 5 (by omega), en3]; rfl
    have hs0 : Sl w A0 dims 1 (flts xs) := by have := hok.1.1.2; rw [← hxl]; exact this
    have sl0 : ∀ (A : Option Addr) (k : Nat) (ys : List Nat), TP.Own0 B w dims (.slice (some ⟨gb, 0, none⟩) n c) ⟨A, k, ys⟩ → Sl w A ys.length 1 (flts ys) := by
      intro A k ys h
      rcases h with h | h
      · cases h; exact ⟨rfl, fun h0 => absurd h0 (by decide)⟩
      · exact h.1.2
    have hs1 : Sl w A1 n1 1 (flts ys1) := by rw [en1]; exact sl0 _ _ _ hok.2.1
    have hs3 : Sl w A3 n3 1 (flts ys3) := by rw [en3]; exact sl0 _ _ _ hok.2.2
    have hPb : n1 = 0 ∨ (0 < n1 ∧ n1 ≤ 4 ∧ 0 < n3 ∧ n3 ≤ 4) := by
      rcases hbxx with h | h
      · left; rw [en1]; show ys1.length = 0; have h : ys1 = [] := h; rw [h]; rfl
      · right
        have h1 : ys1.length = dims := h.1
        have h3 : ys3.length = dims := h.2
        omega
    have hi : ¬ n ≤ i := by omega
    have hsz0 := hK.own
    have IHL := Lib.hid ihl
    have IHR := Lib.hid ihr
    have HN := Lib.hid hK
    have HS := Lib.hid (And.intro hs0 (And.intro hs1 hs3))
    have HPB := Lib.hid hPb
    have HE := Lib.hid (And.intro exs (And.intro epl (And.intro ecl (And.intro efu (And.intro hxl (And.intro hSl hSr))))))
    clear ihl ihr hK hS hxr hkc hok hbxx hSl hSr exs epl ecl efu hxl sl0 hs0 hs1 hs3 hPb en1 en3 hsz0 e6 e7 hil hn
    go_enter Try.func66, Try.ntmps66
    go_wp2_with fail
    go_cut [6] from 19 to 31 (fun q wx => ∃ g A2 c2 bq bx, q = .pointer (some ⟨g, 0, none⟩) ∧ boxV bx = .pointer bq ∧ w.heap.size + 1 ≤ g ∧ Blk wx g 122 (nodeCells ⟨A2, c2, xs⟩ plx (.pointer none) (.pointer none) bx) ∧ TP.Ok wx dims ⟨A2, c2, xs⟩ ∧ Mod (fun _ => False) (w.alloc (.cells #[.slice A0 dims cc0, .int .i64 plx, .int .i64 cl, .int .i64 fu, .slice A1 n1 k1, .slice A3 n3 k3] 39)) wx)
    case first =>
      clear c0 c1 c2 c3 c4 c5
      have B0 := (Blk.new' w #[.slice A0 dims cc0, .int .i64 plx, .int .i64 cl, .int .i64 fu, .slice A1 n1 k1, .slice A3 n3 k3] 39).drew
      have hb0 := B0.lt
      have K4 : ∀ w' : World, Blk w' w.heap.size 39 [.slice A0 dims cc0, .int .i64 plx, .int .i64 cl, .int .i64 fu, .slice A1 n1 k1, .slice A3 n3 k3] → (fun w' => w'.cell? ⟨w.heap.size, 0, none⟩ = some (.slice A0 dims cc0) ∧ w'.cell? ⟨w.heap.size, 1, none⟩ = some (.int .i64 plx) ∧ w'.cell? ⟨w.heap.size, 4, none⟩ = some (.slice A1 n1 k1) ∧ w'.cell? ⟨w.heap.size, 5, none⟩ = some (.slice A3 n3 k3)) w' := fun w' h => ⟨h.at (i := 0) rfl, h.at (i := 1) rfl, h.at (i := 4) rfl, h.at (i := 5) rfl⟩
      have HB0 := Lib.hid B0
      have HK4 := Lib.hid K4
      clear B0 K4
      go_region_held3 (fun w' => w'.cell? ⟨w.heap.size, 0, none⟩ = some (.slice A0 dims cc0) ∧ w'.cell? ⟨w.heap.size, 1, none⟩ = some (.int .i64 plx) ∧ w'.cell? ⟨w.heap.size, 4, none⟩ = some (.slice A1 n1 k1) ∧ w'.cell? ⟨w.heap.size, 5, none⟩ = some (.slice A3 n3 k3)) (first | exact HK4.out _ HB0.out | exact HK4.out _ (HB0.out.mod hma (fun h => h)) | exact HK4.out _ ((HB0.out.mod hma (fun h => h)).alloc _))
        (first
          | (go_at_call 33; first
             | (refine (floats_any A0 dims cc0 xs _ ((HS.out.1.alloc _).drew) (by omega) hdm.1).mono ?_; rintro _ w2 ⟨A2, cc2, rfl, hs2, hma, hb2⟩; have hsz := hma.size; rw [show ∀ x : World, x.drew.heap.size = x.heap.size from fun _ => rfl, World.size_alloc] at hsz)
             | (refine (floats_any A0 dims cc0 xs _ (((HS.out.1.alloc _).drew).mod hma) (by omega) hdm.1).mono ?_; rintro _ w2 ⟨A2, cc2, rfl, hs2, hmb, hb2⟩; have hmc := hma; clear hma; have hma := hmc.trans hmb; have hsz := hma.size; rw [show ∀ x : World, x.drew.heap.size = x.heap.size from fun _ => rfl, World.size_alloc] at hsz))
          | (go_at_call 47; first
             | (refine (kbox_ptr A1 A3 n1 n3 k1 k3 ys1 ys3 _ ((HS.out.2.1.alloc _).drew) ((HS.out.2.2.alloc _).drew) HPB.out).mono ?_; rintro _ w4 ⟨⟨bq, bx, rfl, hbq⟩, hma⟩)
             | (refine (kbox_ptr A1 A3 n1 n3 k1 k3 ys1 ys3 _ (((HS.out.2.1.alloc _).drew).mod hma) (((HS.out.2.2.alloc _).drew).mod hma) HPB.out).mono ?_; rintro _ w4 ⟨⟨bq, bx, rfl, hbq⟩, hmb⟩; have hsx := hs2; clear hs2; have hs2 := hsx.mod hmb; have hmc := hma; clear hma; have hma := hmc.trans hmb; have hsz := hma.size; rw [show ∀ x : World, x.drew.heap.size = x.heap.size from fun _ => rfl, World.size_alloc] at hsz)))
      all_goals
        go_wp2_with fail
        go_meet
        exact ⟨_, A2, cc2, bq, bx, rfl, hbq, (by omega), (by have e : nodeCells ⟨A2, cc2, xs⟩ plx (.pointer none) (.pointer none) bx = [.iface 73 (.slice A2 dims cc2), .int .i64 plx, .pointer none, .pointer none, .pointer bq] := (by unfold nodeCells; rw [hbq, ← HE.out.2.2.2.2.1]; rfl); rw [e]; exact Blk.new' _ _ _), ⟨HE.out.2.2.2.2.1, by show Sl _ A2 xs.length 1 _; rw [HE.out.2.2.2.2.1]; exact hs2.alloc _⟩, (((Mod.refl _ _).drew).trans hma).alloc _⟩
    case rest =>
      obtain ⟨g, A2, C2, bq, bx, rfl, hbq, hg, hb, hok2, hm⟩ := hcut
      have hB0 : Blk wc w.heap.size 39 [.slice A0 dims cc0, .int .i64 plx, .int .i64 cl, .int .i64 fu, .slice A1 n1 k1, .slice A3 n3 k3] := (Blk.new' w #[.slice A0 dims cc0, .int .i64 plx, .int .i64 cl, .int .i64 fu, .slice A1 n1 k1, .slice A3 n3 k3] 39).mod hm (fun h => h)
      have hmw : Mod (fun _ => False) w wc := ((Mod.refl _ _).alloc _).trans hm
      have hgl := hb.lt
      have j2 := hB0.at (i := 2) rfl
      have j3 := hB0.at (i := 3) rfl
      have K : Hid (Blk wc g 122 (nodeCells ⟨A2, C2, xs⟩ plx (.pointer none) (.pointer none) bx) ∧ TP.Ok wc dims ⟨A2, C2, xs⟩ ∧ Blk wc w.heap.size 39 [.slice A0 dims cc0, .int .i64 plx, .int .i64 cl, .int .i64 fu, .slice A1 n1 k1, .slice A3 n3 k3] ∧ Mod (fun _ => False) w wc ∧ boxV bx = .pointer bq) := ⟨hb, hok2, hB0, hmw, hbq⟩
      clear hm hb hok2 hB0 hmw hbq c0 c1 c2 c3 c4 c5
      go_upto_if 35 with fail
      go_cut [] from 35 to 42 (fun wx => ∃ (lv : Option Addr) (t1 : MT), Blk wx g 122 (nodeCells ⟨A2, C2, xs⟩ plx (.pointer lv) (.pointer none) bx) ∧ t1.In wx (.pointer lv) ∧ (∀ k ∈ t1.gs, g < k) ∧ (∀ p ∈ t1.pts, p.Ok wx dims) ∧ Blk wx w.heap.size 39 [.slice A0 dims cc0, .int .i64 plx, .int .i64 cl, .int .i64 fu, .slice A1 n1 k1, .slice A3 n3 k3] ∧ TP.Ok wx dims ⟨A2, C2, xs⟩ ∧ Mod (fun _ => False) w wx ∧ t1.T.map TP.xs = l.T.map TP.xs)
      case first =>
        by_cases h1 : (i : Int) < cl
        · go_wp2_with (go_at_call 66; refine (IHL.out (i + 1) cl wc HE.out.2.2.1 (HN.out.mod K.out.2.2.2.1) HE.out.2.2.2.2.2.1).mono ?_; rintro _ w3 ⟨lv, t1, rfl, ht1, hx1, hg1, hp1, hm1⟩; obtain ⟨q1, rfl⟩ := ht1.ptr; have y2 : w3.cell? ⟨g, 2, none⟩ = some (.pointer none) := ((K.out.1.mod hm1 (fun h => h)).at (i := 2) rfl); have z2 : w3.frozen? ⟨g, 2, none⟩ = false := ((K.out.1.mod hm1 (fun h => h)).frozen 2); have HT := Lib.hid (And.intro ht1 (And.intro hx1 (And.intro hg1 (And.intro hp1 hm1)))); clear ht1 hx1 hg1 hp1 hm1)
          go_meet
          obtain ⟨ht1, hx1, hg1, hp1, hm1⟩ := HT.out
          have b3 := K.out.1.mod hm1 (fun h => h)
          exact ⟨q1, t1, b3.set 2 (.pointer q1), ht1.setOff (fun k hk => by have := hg1 k hk; omega) _, (fun k hk => by have := hg1 k hk; omega), (fun p hp => (hp1 p hp).setNode b3 _), (K.out.2.2.1.mod hm1 (fun h => h)).other _ (by show g ≠ w.heap.size; omega), (K.out.2.1.mod0 hm1).setNode b3 _, (K.out.2.2.2.1.trans hm1).set (.inr (by show w.heap.size ≤ g; omega)) _, hx1⟩
        · have hnil : l = .nil := MT.at_lt (by rw [← HE.out.2.2.1]; exact h1)
          have HNI := Lib.hid hnil
          clear hnil
          go_wp2_with fail
          go_meet
          exact ⟨none, .nil, K.out.1, rfl, (fun k hk => by cases hk), (fun p hp => by cases hp), K.out.2.2.1, K.out.2.1, K.out.2.2.2.1, by rw [HNI.out]⟩
      case rest =>
        obtain ⟨lv, t1, hb1, ht1, hg1, hp1, hB1, hok1, hm1, hx1⟩ := hcut
        have q1 := hB1.at (i := 3) rfl
        have hgl2 := hb1.lt
        have hsz := hm1.size
        have K2 : Hid (Blk wc g 122 (nodeCells ⟨A2, C2, xs⟩ plx (.pointer lv) (.pointer none) bx) ∧ t1.In wc (.pointer lv) ∧ (∀ k ∈ t1.gs, g < k) ∧ (∀ p ∈ t1.pts, p.Ok wc dims) ∧ TP.Ok wc dims ⟨A2, C2, xs⟩ ∧ Mod (fun _ => False) w wc ∧ t1.T.map TP.xs = l.T.map TP.xs) := ⟨hb1, ht1, hg1, hp1, hok1, hm1, hx1⟩
        clear hb1 ht1 hg1 hp1 hB1 hok1 hm1 hx1 j2 j3
        by_cases h2 : (i : Int) < fu
        · go_wp2_with (go_at_call 66; refine (IHR.out (i + 1 + l.count) fu wc HE.out.2.2.2.1 (HN.out.mod K2.out.2.2.2.2.2.1) HE.out.2.2.2.2.2.2).mono ?_; rintro _ w3 ⟨rv, t2, rfl, ht2, hx2, hg2, hp2, hm2⟩; obtain ⟨q2, rfl⟩ := ht2.ptr; have y3 : w3.cell? ⟨g, 3, none⟩ = some (.pointer none) := ((K2.out.1.mod hm2 (fun h => h)).at (i := 3) rfl); have z3 : w3.frozen? ⟨g, 3, none⟩ = false := ((K2.out.1.mod hm2 (fun h => h)).frozen 3); have HT := Lib.hid (And.intro ht2 (And.intro hx2 (And.intro hg2 (And.intro hp2 hm2)))); clear ht2 hx2 hg2 hp2 hm2)
          go_ret
          obtain ⟨ht2, hx2, hg2, hp2, hm2⟩ := HT.out
          obtain ⟨e1, e2, e3, e4, e5, e6, e7⟩ := K2.out
          have b3 := e1.mod hm2 (fun h => h)
          refine ⟨_, .node g ⟨A2, C2, xs⟩ plx bx t1 t2, rfl, ⟨rfl, .pointer lv, .pointer q2, b3.set 3 (.pointer q2), (e2.mod hm2 (fun _ _ h => h)).setOff e3 _, ht2.setOff (fun k hk => by have := hg2 k hk; omega) _⟩, ?_, ?_, ?_, (e6.trans hm2).set (.inr (by show w.heap.size ≤ g; omega)) _⟩
          · show KB.T.node xs plx (t1.T.map TP.xs) (t2.T.map TP.xs) = KB.T.node p.xs pl (l.T.map TP.xs) (r.T.map TP.xs)
            rw [e7, hx2, HE.out.1, HE.out.2.1]
          · intro k hk
            rcases List.mem_cons.1 hk with rfl | hk
            · omega
            · rcases List.mem_append.1 hk with hk | hk
              · have := e3 k hk; omega
              · have := hg2 k hk; omega
          · intro p' hp'
            rcases List.mem_append.1 hp' with hp' | hp'
            · exact ((e4 p' hp').mod0 hm2).setNode b3 _
            · rcases List.mem_cons.1 hp' with rfl | hp'
              · exact (e5.mod0 hm2).setNode b3 _
              · exact (hp2 p' hp').setNode b3 _
        · have hnil : r = .nil := MT.at_lt2 (by rw [← HE.out.2.2.2.1]; exact h2)
          have HNI := Lib.hid hnil
          clear hnil
          go_wp2_with fail
          go_ret
          obtain ⟨e1, e2, e3, e4, e5, e6, e7⟩ := K2.out
          refine ⟨_, .node g ⟨A2, C2, xs⟩ plx bx t1 .nil, rfl, ⟨rfl, .pointer lv, .pointer none, e1, e2, rfl⟩, ?_, ?_, ?_, e6⟩
          · show KB.T.node xs plx (t1.T.map TP.xs) .nil = KB.T.node p.xs pl (l.T.map TP.xs) (r.T.map TP.xs)
            rw [e7, HE.out.1, HE.out.2.1, HNI.out]; rfl
          · intro k hk
            rcases List.mem_cons.1 hk with rfl | hk
            · omega
            · rcases List.mem_append.1 hk with hk | hk
              · have := e3 k hk; omega
              · cases hk
          · intro p' hp'
            rcases List.mem_append.1 hp' with hp' | hp'
            · exact e4 p' hp'
            · rcases List.mem_cons.1 hp' with rfl | hp'
              · exact e5
              · cases hp'
end Go.Proofs.Ytmeooadgdagiiaa
