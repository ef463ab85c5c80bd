/- Steps of a proof, one behind another: The walk that writes a k-d tree down as rows of nodes. Conditions: a tree without boxes. The walk of KBuild without boxes. Squared distances as float numbers, infinite or whole; math.Inf, math.Min. Conditions: as each theorem says. -/
import Derived.Test.YtmeooadgdagiiaaMr8
import Derived.Deep.RegionHeld3
import Derived.Deep.RegionLaw
import Derived.Deep.DrawnRows
import Derived.Deep.DeepCutAuto
import Derived.IntWalk
import Derived.Test.YtmeooadgdagiiaaRows

namespace Go.Proofs.Ytmeooadgdagiiaa
open Go.RowKit Lox
set_option linter.unusedVariables false
attribute [local go_sem] run_store_flt run_store_fn
attribute [local go_sem ↓] Go.wp_at_zero Go.wp_at_succ

theorem info_knode : (Try.prog.info? 39).map (fun i => (i.zero, i.size, i.bytes)) = some (some (.agg #[.slice none 0 0, .int .i64 0, .int .i64 0, .int .i64 0, .slice none 0 0, .slice none 0 0]), 6, 96) := by kernel_rfl

theorem sl_set {w : World} {A : Option Addr} {n : Nat} {xs : List Value} (h : Sl w A n 1 xs) {a : Addr} (hne : ∀ b o, A = some ⟨b, o, none⟩ → b ≠ a.block) (u : Value) : Sl (w.setCell a u) A n 1 xs := by
  refine ⟨h.1, fun h0 => ?_⟩
  obtain ⟨b, o, e, hc⟩ := h.2 h0
  exact ⟨b, o, e, fun j v hv => (World.cell?_of_block (w := w) (Below.heap_setCell _ _ _ _ (hne b o e))).trans (hc j v hv)⟩

/-- What knodes tells. -/
def KnTold (B dims : Nat) (mt : MT) (ov : Value) (rs : List KR) (w : World) (e : Ending) (w' : World) : Prop :=
  ∃ (v' : Value) (rs' : List KR), e = .returned (.tuple #[v', .int .i64 (mt.at rs.length)]) ∧ KS B w' dims v' (rs ++ rs') ∧ rs'.map KR.plain = mt.flat rs.length ∧ Mod (fun k => ov.ownBlock = some k) w w' ∧ (v'.ownBlock = ov.ownBlock ∨ ∃ g, v'.ownBlock = some g ∧ w.heap.size ≤ g) ∧ (∃ A c, v' = .slice A (rs ++ rs').length c)

theorem kn_nil {B dims : Nat} {v : Value} {rs : List KR} {w : World} (h : KS B w dims v rs) : KnTold B dims .nil v rs w (.returned (.tuple #[v, .int .i64 (-1)])) w :=
  ⟨v, [], rfl, by rw [List.append_nil]; exact h, rfl, Mod.refl _ _, .inl rfl, by
    obtain ⟨A, c, e⟩ : ∃ A c, v = .slice A rs.length c := by
      rcases h.own.2 with ⟨rfl, h0⟩ | ⟨g, cap, cur, e1, _⟩
      · exact ⟨none, 0, by rw [h0]⟩
      · exact ⟨_, _, e1⟩
    rw [List.append_nil]; exact ⟨A, c, e⟩⟩

/-- A tree that may be written down: its points are there, apart from the row. -/
structure KTr (w : World) (dims : Nat) (mt : MT) (nv ov : Value) : Prop where
  tin : mt.In w nv
  pts : ∀ p ∈ mt.pts, p.Ok w dims ∧ ∀ b o, p.A = some ⟨b, o, none⟩ → ov.ownBlock ≠ some b
  bare : mt.bare

/-- The own block of v' is that of v, or a newer one. -/
def Newer (v v' : Value) (H : Nat) : Prop := v'.ownBlock = v.ownBlock ∨ ∃ g, v'.ownBlock = some g ∧ H ≤ g

theorem MT.In.node {w : World} : ∀ {t : MT} {v : Value}, t.In w v → ∀ k ∈ t.gs, ∃ ys, Blk w k 122 ys := by
  intro t
  induction t with
  | nil => intro v h k hk; cases hk
  | node g p d bx l r ihl ihr =>
    intro v h k hk
    obtain ⟨e, lv, rv, hb, hl, hr⟩ := h
    rcases List.mem_cons.1 hk with rfl | hk
    · exact ⟨_, hb⟩
    · rcases List.mem_append.1 hk with hk | hk
      · exact ihl hl k hk
      · exact ihr hr k hk

theorem KTr.keep {w W : World} {dims B n : Nat} {t : MT} {nv ov v' : Value} {xs : List Value} (hd : 0 < dims) (h : KTr w dims t nv ov) (ho : w.ownsRow B 39 6 ov n xs) (hk : ∀ k, k < w.heap.size → ov.ownBlock ≠ some k → W.heap[k]? = w.heap[k]?) (hv : Newer ov v' w.heap.size) : KTr W dims t nv v' := by
  refine ⟨h.tin.keep fun k hkg hkl => hk k hkl ?_, fun p hp => ⟨?_, fun b o e e2 => ?_⟩, h.bare⟩
  · obtain ⟨ys, hb⟩ := h.tin.node k hkg
    exact owns_ne ho hb (by decide)
  · obtain ⟨h1, h2⟩ := h.pts p hp
    refine ⟨h1.1, h1.2.1, fun h0 => ?_⟩
    obtain ⟨b, o, e, hc⟩ := h1.2.2 h0
    exact ⟨b, o, e, fun j u hu => (World.cell?_of_block (w := w) (hk b (lt_of_cell (hc j u hu)) (h2 b o e))).trans (hc j u hu)⟩
  · obtain ⟨h1, h2⟩ := h.pts p hp
    have hlt : b < w.heap.size := (h1.2.far (by omega)) (by rw [h1.1]; exact hd) b o e
    rcases hv with h3 | ⟨g, h3, h4⟩
    · rw [h3] at e2; exact h2 b o e e2
    · rw [h3] at e2
      injection e2 with e2
      omega

theorem Newer.of_at {v : Value} {g H n cap : Nat} (h : v.ownBlock = some g ∨ g = H + 1) : Newer v (.slice (some ⟨g, 0, none⟩) n cap) H := by
  rcases h with h | h
  · exact .inl h.symm
  · exact .inr ⟨g, rfl, by omega⟩

theorem Newer.trans {a b c : Value} {H K : Nat} (h : Newer a b H) (k : Newer b c K) (hHK : H ≤ K) : Newer a c H := by
  rcases k with k | ⟨g, k1, k2⟩
  · rcases h with h | ⟨g, h1, h2⟩
    · exact .inl (k.trans h)
    · exact .inr ⟨g, k.trans h1, h2⟩
  · exact .inr ⟨g, k1, by omega⟩

/-- The blocks that a row's writing may turn, seen from the beginning. -/
theorem Mod.newer {a b c : World} {v v' : Value} (h : Mod (fun k => v.ownBlock = some k) a b) (k : Mod (fun k => v'.ownBlock = some k) b c) (hn : Newer v v' a.heap.size) : Mod (fun k => v.ownBlock = some k) a c :=
  h.trans' k fun i hi e => by
    rcases hn with hn | ⟨g, h1, h2⟩
    · rw [← hn]; exact e
    · rw [h1] at e
      injection e with e
      omega

theorem set_mid {α : Type} (A B : List α) (x y : α) : (A ++ x :: B).set A.length y = A ++ y :: B := by
  rw [List.set_append_right _ _ (Nat.le_refl _), Nat.sub_self]; rfl

theorem kn_end {B dims m g g2 N c2 pl : Nat} {p : TP} {l r : MT} {ov v1 v2 : Value} {rs rs1 rs2 : List KR} {x : KR} {w w3 w4 w5 : World} (hm : m = rs.length) (hx : x.plain = ⟨p.xs, pl, 0, 0, [], []⟩)
    (hB : B ≤ w.heap.size) (h3 : Mod (fun k => ov.ownBlock = some k) w w3) (n3 : Newer ov v1 w.heap.size)
    (h4 : Mod (fun k => v1.ownBlock = some k) w3 w4) (n4 : Newer v1 v2 w3.heap.size) (h5 : Mod (fun k => v2.ownBlock = some k) w4 w5) (n5 : Newer v2 (.slice (some ⟨g2, 0, none⟩) N c2) w4.heap.size)
    (hp1 : rs1.map KR.plain = l.flat (m + 1)) (hp2 : rs2.map KR.plain = r.flat (m + 1 + l.count)) (hK : KS B w5 dims (.slice (some ⟨g2, 0, none⟩) N c2) (((rs ++ [x]) ++ rs1) ++ rs2)) (hN : N = (((rs ++ [x]) ++ rs1) ++ rs2).length) :
    KnTold B dims (.node g p pl none l r) ov rs w (.returned (.tuple #[.slice (some ⟨g2, 0, none⟩) N c2, .int .i64 m]))
      ((w5.setCell ⟨g2, m * 6 + 2, none⟩ (.int .i64 (l.at (m + 1)))).setCell ⟨g2, m * 6 + 3, none⟩ (.int .i64 (r.at (m + 1 + l.count)))) := by
  have e0 : (((rs ++ [x]) ++ rs1) ++ rs2) = rs ++ x :: (rs1 ++ rs2) := by simp
  have hget : (((rs ++ [x]) ++ rs1) ++ rs2)[m]? = some x := by rw [e0, hm]; simp
  have hs := hK.sides hN hget (l.at (m + 1)) (r.at (m + 1 + l.count))
  rw [e0, hm, set_mid] at hs
  have s3 := h3.size
  have s4 := h4.size
  have s5 := h5.size
  have n1 : Newer ov v2 w.heap.size := n3.trans n4 s3
  have n2 : Newer ov (.slice (some ⟨g2, 0, none⟩) N c2) w.heap.size := n1.trans n5 (by omega)
  refine ⟨_, _, by rw [hm]; rfl, by rw [hm]; exact hs, ?_, ?_, ?_, ⟨some ⟨g2, 0, none⟩, c2, by rw [hN]; simp⟩⟩
  · obtain ⟨xp, xpl, xl, xr, xmn, xmx⟩ := x
    simp only [KR.plain, PR.mk.injEq] at hx
    obtain ⟨a1, a2, a3, a4, a5, a6⟩ := hx
    simp only [List.map_cons, List.map_append, hp1, hp2, MT.flat, KR.plain, ← hm, a1, a2, a5, a6, boxMn, boxMx]
  · have h35 : Mod (fun k => ov.ownBlock = some k) w w5 := Mod.newer (Mod.newer h3 h4 n3) h5 n1
    have hg2 : ov.ownBlock = some g2 ∨ w.heap.size ≤ g2 := by
      rcases n2 with n2 | ⟨g', n2, n2'⟩
      · exact .inl n2.symm
      · have e : some g2 = some g' := n2
        injection e with e
        exact .inr (by omega)
    exact (h35.set (p := ⟨g2, m * 6 + 2, none⟩) hg2 _).set (p := ⟨g2, m * 6 + 3, none⟩) hg2 _
  · exact n2

/-- What stands behind the append of a node. -/
structure KnAt (B dims g pl : Nat) (p : TP) (l r : MT) (ql qr : Option Addr) (v : Value) (rs : List KR) (W : World) : Prop where
  ks : KS B W dims v rs
  blk : Blk W g 122 (nodeCells p pl (.pointer ql) (.pointer qr) none)
  tl : KTr W dims l (.pointer ql) v
  tr : KTr W dims r (.pointer qr) v

theorem kn_push {B dims m g gg cap pl : Nat} {p : TP} {l r : MT} {ql qr A : Option Addr} {c : Nat} {rs : List KR} {x : KR} {w wc w3 : World} {o : Obj} (hd : 0 < dims) (hm : m = rs.length) (hmw : Mod (fun _ => False) w wc)
    (hK : KS B wc dims (.slice A m c) rs) (hx : x.p.Own B wc dims (.slice A m c) ∧ x.mn.Own0 B wc dims (.slice A m c) ∧ x.mx.Own0 B wc dims (.slice A m c)) (hb : Blk wc g 122 (nodeCells p pl (.pointer ql) (.pointer qr) none))
    (hl : KTr w dims l (.pointer ql) (.slice A m c)) (hr : KTr w dims r (.pointer qr) (.slice A m c)) (ho : w.ownsRow B 39 6 (.slice A m c) rs.length (rs.flatMap KR.cells)) (hne : (Value.slice A m c).ownBlock ≠ some g)
    (hown : w3.ownsRow B 39 6 (.slice (some ⟨gg, 0, none⟩) (m + 1) cap) (m + 1) (rs.flatMap KR.cells ++ x.cells)) (hgrow : (wc.alloc o).grownBy w3 (Value.slice A m c).ownBlock) (hat : (Value.slice A m c).ownBlock = some gg ∨ gg = wc.heap.size + 1) :
    KnAt B dims g pl p l r ql qr (.slice (some ⟨gg, 0, none⟩) (m + 1) cap) (rs ++ [x]) w3 ∧ Newer (.slice A m c) (.slice (some ⟨gg, 0, none⟩) (m + 1) cap) w.heap.size ∧ Mod (fun k => (Value.slice A m c).ownBlock = some k) w w3 := by
  have hz := hmw.size
  have hk : ∀ k, k < w.heap.size → (Value.slice A m c).ownBlock ≠ some k → w3.heap[k]? = w.heap[k]? := fun k hk hn =>
    (hgrow.block k (by rw [World.size_alloc]; omega) (Ne.symm hn)).trans ((Below.heap_alloc _ _ _ (by omega)).trans (hmw.block k hk (fun h => h)))
  have hN : Newer (.slice A m c) (.slice (some ⟨gg, 0, none⟩) (m + 1) cap) w.heap.size := by
    rcases hat with h | h
    · exact .inl h.symm
    · exact .inr ⟨gg, rfl, by omega⟩
  refine ⟨⟨?_, (hb.alloc o).grown hgrow (Ne.symm hne), hl.keep hd ho hk hN, hr.keep hd ho hk hN⟩, hN, ?_⟩
  · subst hm
    exact hK.push hd hx hown hgrow hat
  · exact ((hmw.mono (fun _ _ h => h.elim) : Mod (fun k => (Value.slice A m c).ownBlock = some k) w wc).alloc o).grown hgrow (fun k e _ => e)

theorem KnAt.step {B dims g pl : Nat} {p : TP} {l r : MT} {ql qr : Option Addr} {v v' : Value} {rs rs' : List KR} {W W' : World} (hd : 0 < dims) (h : KnAt B dims g pl p l r ql qr v rs W) (hK : KS B W' dims v' rs') (hm : Mod (fun k => v.ownBlock = some k) W W') (hn : Newer v v' W.heap.size) : KnAt B dims g pl p l r ql qr v' rs' W' := by
  have hk : ∀ k, k < W.heap.size → v.ownBlock ≠ some k → W'.heap[k]? = W.heap[k]? := fun k hk hn => hm.block k hk hn
  exact ⟨hK, h.blk.mod hm (owns_ne h.ks.own h.blk (by decide)), h.tl.keep hd h.ks.own hk hn, h.tr.keep hd h.ks.own hk hn⟩

theorem kn_len2 {m : Nat} {l : MT} {a rs1 : List KR} (h : a.length = m + 1) (h1 : rs1.map KR.plain = l.flat (m + 1)) : (a ++ rs1).length = m + 1 + l.count := by
  have := congrArg List.length h1
  rw [List.length_map, MT.flat_len] at this
  rw [List.length_append, h, this]

theorem kn_pos {n : Nat} {rs rs1 rs2 : List KR} {x : KR} (h : n = (((rs ++ [x]) ++ rs1) ++ rs2).length) : 0 < n := by
  rw [h]; simp only [List.length_append, List.length_singleton]; omega

theorem kn_lt {n m : Nat} {rs rs1 rs2 : List KR} {x : KR} (hm : m = rs.length) (h : n = (((rs ++ [x]) ++ rs1) ++ rs2).length) : m < n := by
  rw [h]; simp only [List.length_append, List.length_singleton]; omega

theorem kn_get {m : Nat} {rs : List KR} (rs1 rs2 : List KR) (x : KR) (hm : m = rs.length) : (((rs ++ [x]) ++ rs1) ++ rs2)[m]? = some x := by
  have e0 : (((rs ++ [x]) ++ rs1) ++ rs2) = rs ++ x :: (rs1 ++ rs2) := by simp
  rw [e0, hm]
  simp

set_option maxRecDepth 100000 in
set_option maxHeartbeats 8000000 in
theorem knodes_at (B dims : Nat) (hdm : 0 < dims ∧ dims ≤ 1099511627776) (mt : MT) :
    ∀ (w : World) (nv ov : Value) (rs : List KR), KTr w dims mt nv ov → KS B w dims ov rs → B ≤ w.heap.size → rs.length + mt.count ≤ 4294967296 →
      Calls Try.prog 34 #[nv, ov] w (KnTold B dims mt ov rs w) := by
  have hta := run_assert_pt
  induction mt with
  | nil =>
    intro w nv ov rs hT hK hB hn
    have hv : nv = .pointer none := hT.tin
    subst hv
    have HK := Lib.hid hK
    obtain ⟨A, c, e⟩ : ∃ A c, ov = .slice A rs.length c := by
      rcases hK.own.2 with ⟨rfl, h0⟩ | ⟨g, cap, cur, e1, _⟩
      · exact ⟨none, 0, by rw [h0]⟩
      · exact ⟨_, _, e1⟩
    subst e
    clear hT hK
    go_enter Try.func34, Try.ntmps34
    go_wp2
    go_ret2
    exact kn_nil HK.out
  | node g p pl bx l r ihl ihr =>
    intro w nv ov rs hT hK hB hn
    obtain ⟨⟨hv, lv, rv, hb, hl, hr⟩, hP, hbx, hbl, hbr⟩ := hT
    subst hv hbx
    obtain ⟨ql, rfl⟩ := hl.ptr
    obtain ⟨qr, rfl⟩ := hr.ptr
    obtain ⟨A, c, e⟩ : ∃ A c, ov = .slice A rs.length c := by
      rcases hK.own.2 with ⟨rfl, h0⟩ | ⟨g, cap, cur, e1, _⟩
      · exact ⟨none, 0, by rw [h0]⟩
      · exact ⟨_, _, e1⟩
    subst e
    have hpp := hP p (by simp [MT.pts])
    have c0 : w.cell? ⟨g, 0, none⟩ = some (.iface 73 (.slice p.A dims p.c)) := by rw [← hpp.1.1]; exact hb.at (i := 0) rfl
    have c1 : w.cell? ⟨g, 1, none⟩ = some (.int .i64 pl) := hb.at (i := 1) rfl
    have c4 : w.cell? ⟨g, 4, none⟩ = some (.pointer none) := hb.at (i := 4) rfl
    have hgl := hb.lt
    have hsl : Sl w p.A dims 1 (flts p.xs) := by have := hpp.1.2; rw [hpp.1.1] at this; exact this
    obtain ⟨m, hm⟩ : ∃ m, m = rs.length := ⟨_, rfl⟩
    rw [← hm]
    have hmb : m ≤ 4294967296 := by simp only [MT.count] at hn; omega
    have H1 := Lib.hid (And.intro hsl (And.intro hpp (And.intro hm (And.intro hn hB))))
    have H2 := Lib.hid (And.intro hb (And.intro hl (And.intro hr (And.intro hP (And.intro hbl (And.intro hbr hK))))))
    have HIL := Lib.hid ihl
    have HIR := Lib.hid ihr
    clear hsl hpp hm hn hB hb hl hr hP hbl hbr hK ihl ihr
    go_enter Try.func34, Try.ntmps34
    go_wp2_with fail
    go_cut [7] from 15 to 50 (fun q wx => ∃ (kb : Nat) (A2 : Option Addr) (c2 : Nat), q = .pointer (some ⟨kb, 0, none⟩) ∧ w.heap.size ≤ kb ∧ Hid (Blk wx kb 39 [.slice A2 dims c2, .int .i64 pl, .int .i64 0, .int .i64 0, .slice none 0 0, .slice none 0 0] ∧ Sl wx A2 dims 1 (flts p.xs) ∧ (∀ b o, A2 = some ⟨b, o, none⟩ → w.heap.size ≤ b) ∧ Mod (fun _ => False) w wx))
    case first =>
      have KEEP : Hid (∀ W : World, Mod (fun _ => False) w W → W.cell? ⟨g, 0, none⟩ = some (.iface 73 (.slice p.A dims p.c)) ∧ W.cell? ⟨g, 1, none⟩ = some (.int .i64 pl)) := fun W hm => ⟨(hm.cell hgl (fun h => h)).trans c0, (hm.cell hgl (fun h => h)).trans c1⟩
      go_region_held3 (fun w' => w'.cell? ⟨g, 0, none⟩ = some (.iface 73 (.slice p.A dims p.c)) ∧ w'.cell? ⟨g, 1, none⟩ = some (.int .i64 pl)) (first | with_reducible exact KEEP.out _ HMA.out | with_reducible exact KEEP.out _ (HMA.out.alloc _) | with_reducible exact KEEP.out _ ((((((HMA.out.set (.inr (Nat.le_refl _)) _).set (.inr (Nat.le_refl _)) _).set (.inr (Nat.le_refl _)) _).set (.inr (Nat.le_refl _)) _).set (.inr (Nat.le_refl _)) _).set (.inr (Nat.le_refl _)) _) | with_reducible exact KEEP.out _ ((Mod.refl _ _).alloc _).drew | with_reducible exact KEEP.out _ (Mod.refl _ _).drew | with_reducible exact KEEP.out _ (Mod.refl _ _))
        (first | (go_at_call 33; refine (floats_any p.A dims p.c p.xs _ (by first | with_reducible exact H1.out.1.drew | with_reducible exact (H1.out.1.alloc _).drew) hdm.2 hdm.1).mono ?_; rintro _ w1 ⟨A2, cc2, rfl, hs2, hm2, hb2⟩; have hma : Mod (fun _ => False) w w1 := (by first | with_reducible exact (Mod.refl _ _).drew.trans hm2 | with_reducible exact ((Mod.refl _ _).alloc _).drew.trans hm2); (try (have B1 : Blk w1 w.heap.size 39 [.slice none 0 0, .int .i64 0, .int .i64 0, .int .i64 0, .slice none 0 0, .slice none 0 0] := (Blk.new' w #[.slice none 0 0, .int .i64 0, .int .i64 0, .int .i64 0, .slice none 0 0, .slice none 0 0] 39).drew.mod (by with_reducible exact hm2) (fun h => h); have y0 := B1.at (i := 0) rfl; have y1 := B1.at (i := 1) rfl; have y2 := B1.at (i := 2) rfl; have y3 := B1.at (i := 3) rfl; have y4 := B1.at (i := 4) rfl; have y5 := B1.at (i := 5) rfl; have z0 := B1.frozen 0; have z1 := B1.frozen 1; have z2 := B1.frozen 2; have z3 := B1.frozen 3; have z4 := B1.frozen 4; have z5 := B1.frozen 5; have HB1 := Lib.hid B1; clear B1)); have HMA := Lib.hid hma; have HW := Lib.hid (And.intro hs2 (And.intro hm2 hb2)); clear hs2 hm2 hb2 hma))
      all_goals
        have c4' : w1.cell? ⟨g, 4, none⟩ = some (.pointer none) := (HMA.out.cell hgl (fun h => h)).trans c4
        have hz1 := HMA.out.size
        have hg1 : g < w1.heap.size := by omega
        have hgw : g ≠ w.heap.size := by omega
        have hgw' : w.heap.size ≠ g := by omega
        go_wp2_with fail
        go_meet
        first
          | exact ⟨_, A2, cc2, rfl, hz1, Blk.new' _ _ _, HW.out.1.alloc _, fun b o e => HW.out.2.2 b o e, HMA.out.alloc _⟩
          | (have hb3 : ∀ b o, A2 = some ⟨b, o, none⟩ → w.heap.size + 1 ≤ b := fun b o e => by
               have := HW.out.2.2 b o e
               rw [show ∀ x : World, x.drew.heap.size = x.heap.size from fun _ => rfl, World.size_alloc] at this
               exact this
             have hne : ∀ b o, A2 = some ⟨b, o, none⟩ → b ≠ w.heap.size := fun b o e => by have := hb3 b o e; omega
             exact ⟨_, A2, cc2, rfl, Nat.le_refl _, (((((HB1.out.set 0 _).set 1 _).set 2 _).set 3 _).set 4 _).set 5 _, sl_set (sl_set (sl_set (sl_set (sl_set (sl_set HW.out.1 hne _) hne _) hne _) hne _) hne _) hne _, fun b o e => by have := hb3 b o e; omega, ((((((HMA.out.set (.inr (Nat.le_refl _)) _).set (.inr (Nat.le_refl _)) _).set (.inr (Nat.le_refl _)) _).set (.inr (Nat.le_refl _)) _).set (.inr (Nat.le_refl _)) _).set (.inr (Nat.le_refl _)) _)⟩)
    case rest =>
      obtain ⟨kb, A2, C2, rfl, hkb, HC⟩ := hcut
      have k0 := HC.out.1.at (i := 0) rfl
      have k1 := HC.out.1.at (i := 1) rfl
      have k2 := HC.out.1.at (i := 2) rfl
      have k3 := HC.out.1.at (i := 3) rfl
      have k4 := HC.out.1.at (i := 4) rfl
      have k5 := HC.out.1.at (i := 5) rfl
      obtain ⟨i0, hi0, hz0, hz1, hz2⟩ := info_parts info_knode
      have HI := Lib.hid (And.intro hi0 (And.intro hz0 (And.intro hz1 hz2)))
      have c4c : wc.cell? ⟨g, 4, none⟩ = some (.pointer none) := (HC.out.2.2.2.cell hgl (fun h => h)).trans c4
      clear hi0 hz0 hz1 hz2 c0 c1 c4
      obtain ⟨x, hx⟩ : ∃ x : KR, x = ⟨⟨A2, C2, p.xs⟩, pl, 0, 0, ⟨none, 0, []⟩, ⟨none, 0, []⟩⟩ := ⟨_, rfl⟩
      have hm := H1.out.2.2.1
      have hn := H1.out.2.2.2.1
      have hB := H1.out.2.2.2.2
      have hpd := H1.out.2.1.1.1
      obtain ⟨hb, hl, hr, hP, hbl, hbr, hK⟩ := H2.out
      have hmw := HC.out.2.2.2
      have hzc := hmw.size
      have hKc : KS B wc dims (.slice A m c) rs := by rw [hm]; exact hK.mod hmw
      have hown0 : w.ownsRow B 39 6 (.slice A m c) rs.length (rs.flatMap KR.cells) := by rw [hm]; exact hK.own
      have hxo : x.p.Own B wc dims (.slice A m c) := by
        rw [hx]
        refine ⟨⟨hpd, by show Sl wc A2 p.xs.length 1 _; rw [hpd]; exact HC.out.2.1⟩, fun b o e => ⟨by have := HC.out.2.2.1 b o e; omega, fun e2 => ?_⟩⟩
        have h1 := (own_block hown0 e2).2
        have h2 := HC.out.2.2.1 b o e
        omega
      have hxn : (⟨none, 0, []⟩ : TP).Own0 B wc dims (.slice A m c) := .inl rfl
      have hne : (Value.slice A m c).ownBlock ≠ some g := owns_ne hown0 hb (by decide)
      have hbc := hb.mod hmw (fun h => h)
      have hownc : wc.ownsRow B 39 6 (.slice A m c) m (rs.flatMap KR.cells) := by have := hKc.own; rw [← hm] at this; exact this
      have hTl : KTr w dims l (.pointer ql) (.slice A m c) := ⟨hl, fun q hq => by rw [hm]; exact hP q (by simp [MT.pts, hq]), hbl⟩
      have hTr : KTr w dims r (.pointer qr) (.slice A m c) := ⟨hr, fun q hq => by rw [hm]; exact hP q (by simp [MT.pts, hq]), hbr⟩
      have hw1 : IntKind.i64.wrap ((m : Int) + 1) = (m : Int) + 1 := IntWalk.i64_in _ (by omega)
      have HR : Hid (KS B wc dims (.slice A m c) rs ∧ x.p.Own B wc dims (.slice A m c) ∧ (⟨none, 0, []⟩ : TP).Own0 B wc dims (.slice A m c) ∧ Blk wc g 122 (nodeCells p pl (.pointer ql) (.pointer qr) none) ∧ wc.ownsRow B 39 6 (.slice A m c) m (rs.flatMap KR.cells) ∧ KTr w dims l (.pointer ql) (.slice A m c) ∧ KTr w dims r (.pointer qr) (.slice A m c) ∧ w.ownsRow B 39 6 (.slice A m c) rs.length (rs.flatMap KR.cells) ∧ (Value.slice A m c).ownBlock ≠ some g) := ⟨hKc, hxo, hxn, hbc, hownc, hTl, hTr, hown0, hne⟩
      have HX := Lib.hid hx
      have HZ : Hid (w.heap.size ≤ wc.heap.size ∧ B ≤ w.heap.size) := ⟨hzc, hB⟩
      have hcells : x.cells = [.slice A2 dims C2, .int .i64 pl, .int .i64 0, .int .i64 0, .slice none 0 0, .slice none 0 0] := by rw [hx]; show [Value.slice A2 p.xs.length C2, _, _, _, _, _] = _; rw [hpd]; rfl
      have HCX := Lib.hid hcells
      have tok1 : True := trivial
      clear hx hm hn hpd hb hl hr hP hbl hbr hK hmw hKc hown0 hxo hxn hne hbc hownc hTl hTr hcells hw1
      have tok2 : True := trivial
      have E1 : Hid ((rs ++ [x]).length = m + 1) := by show _ = _; rw [List.length_append, List.length_singleton, ← H1.out.2.2.1]
      have hm0 : (0 : Int) ≤ m := by omega
      go_wp2_with (first
        | (at_builtin; refine wpList_append_lies _ (by rfl) (.tmp 51) (.tmp 53) 28 (by rfl) B 39 i0 _ 6 96 Try.underlying28 HI.out.1 HI.out.2.1 HI.out.2.2.1 HI.out.2.2.2 rfl (by omega) (.slice A m c) m (rs.flatMap KR.cells) (by rfl) (HR.out.2.2.2.2.1.alloc _) ⟨wc.heap.size, 0, none⟩ 1 1 [.slice A2 dims C2, .int .i64 pl, .int .i64 0, .int .i64 0, .slice none 0 0, .slice none 0 0] (by rfl) (by rfl) (World.news_of_block (cs := #[.slice A2 dims C2, .int .i64 pl, .int .i64 0, .int .i64 0, .slice none 0 0, .slice none 0 0]) (t := 39) (fr := (0, 0)) (heap_alloc_new wc _)) (by simp [Value.oneCell']) (by omega) (by unfold maxLen; omega) (by omega) (by simp; omega) (wc.heap.size + 1) (by simp) ?_; intro gg cap w3 hown hgrow hat hlt3; have HP := Lib.hid (kn_push hdm.1 H1.out.2.2.1 HC.out.2.2.2 HR.out.1 ⟨HR.out.2.1, by rw [HX.out]; exact HR.out.2.2.1, by rw [HX.out]; exact HR.out.2.2.1⟩ HR.out.2.2.2.1 HR.out.2.2.2.2.2.1 HR.out.2.2.2.2.2.2.1 HR.out.2.2.2.2.2.2.2.1 HR.out.2.2.2.2.2.2.2.2 (by rw [HCX.out]; exact hown) hgrow hat); clear hown hgrow hat; have g2 : w3.cell? ⟨g, 2, none⟩ = some (.pointer ql) := HP.out.1.blk.at (i := 2) rfl)
        | (go_at_call 34; have _t := tok2; clear _t tok2; refine (HIL.out _ (.pointer ql) (.slice (some ⟨gg, 0, none⟩) (m + 1) cap) (rs ++ [x]) HP.out.1.tl HP.out.1.ks (by have := HP.out.2.2.size; have := HZ.out; omega) (by have h1 := H1.out.2.2.2.1; rw [List.length_append, List.length_singleton]; simp only [MT.count] at h1; omega)).mono ?_; rintro _ w4 ⟨v1, rs1, he, q1, q2, q3, q4, ⟨A1, c1, q5⟩⟩; rw [E1.out] at he q2; subst he; obtain ⟨n1, hn1⟩ : ∃ n1, n1 = ((rs ++ [x]) ++ rs1).length := ⟨_, rfl⟩; rw [← hn1] at q5; subst q5; have HQ1 := Lib.hid (And.intro (HP.out.1.step hdm.1 q1 q3 q4) (And.intro q2 (And.intro q3 (And.intro q4 hn1)))); clear q1 q2 q3 q4 hn1; have g3 : w4.cell? ⟨g, 3, none⟩ = some (.pointer qr) := HQ1.out.1.blk.at (i := 3) rfl)
        | (go_at_call 34; refine (HIR.out _ (.pointer qr) (.slice A1 n1 c1) ((rs ++ [x]) ++ rs1) HQ1.out.1.tr HQ1.out.1.ks (by have := HP.out.2.2.size; have := HQ1.out.2.2.1.size; have := HZ.out; omega) (by have h1 := H1.out.2.2.2.1; have h2 := congrArg List.length HQ1.out.2.1; rw [List.length_map, MT.flat_len] at h2; rw [List.length_append, List.length_append, List.length_singleton]; simp only [MT.count] at h1; omega)).mono ?_; rintro _ w5 ⟨v2, rs2, he, q1, q2, q3, q4, -⟩; rw [kn_len2 E1.out HQ1.out.2.1] at he q2; subst he; obtain ⟨n2, hn2⟩ : ∃ n2, n2 = (((rs ++ [x]) ++ rs1) ++ rs2).length := ⟨_, rfl⟩; obtain ⟨gb, c2, q5, -, -⟩ := q1.own.form (by rw [← hn2]; have := kn_pos hn2; omega); rw [← hn2] at q5; subst q5; have hget := kn_get rs1 rs2 x H1.out.2.2.1; have y2 := (q1.cell hn2 hget (j := 2) (by omega)); have y3 := (q1.cell hn2 hget (j := 3) (by omega)); rw [HCX.out] at y2 y3; have hmn : (m : Int) < n2 := (by have := kn_lt H1.out.2.2.1 hn2; omega); have HQ2 := Lib.hid (And.intro q1 (And.intro q2 (And.intro q3 (And.intro q4 hn2)))); clear q1 q2 q3 q4 hn2 hget; have y2' := y2.1; have z2' := y2.2; have y3' := y3.1; have z3' := y3.2; simp only [List.getElem?_cons_succ, List.getElem?_cons_zero] at y2' y3'; clear y2 y3))
      go_ret2
      exact kn_end (x := x) H1.out.2.2.1 (by rw [HX.out]; rfl) HZ.out.2 HP.out.2.2 HP.out.2.1 HQ1.out.2.2.1 HQ1.out.2.2.2.1 HQ2.out.2.2.1 HQ2.out.2.2.2.1 HQ1.out.2.1 HQ2.out.2.1 HQ2.out.1 HQ2.out.2.2.2.2
end Go.Proofs.Ytmeooadgdagiiaa

namespace Go.Proofs.Ytmeooadgdagiiaa
open Go.RowKit Lox
set_option linter.unusedVariables false
attribute [local go_sem] run_store_flt run_store_fn
attribute [local go_sem ↓] Go.wp_at_zero Go.wp_at_succ

theorem catch_idle3 (p q r : Addr) (w : World) :
    CallsD Try.prog 28 #[.pointer (some p), .pointer (some q), .pointer (some r)] .returning w fun e u' w' => e = .returned (.tuple #[]) ∧ u' = .returning ∧ w' = w := by
  refine callsD_of_wpS Try.func28 rfl fun c₀ cs hu => ?_
  apply wpS_seq
  apply wpS_region
  simp [wpOpsS, go_sem, recoverD, hu, Try.ntmps28, Exit.thenS]
  refine wpS_cond (t := false) (by simp [Act.eval, Array.replicate]) ?_
  simp only [Bool.false_eq_true, if_false]
  refine wpS_of_wp (wp_skip ?_)
  cases c₀
  simp_all [bodyPostS, results, Try.results28]

theorem init3 (w : World) (H : Nat) (hH : w.heap.size = H) : ∃ W, W = (((w.alloc (.cells #[.slice none 0 0] 28)).alloc (.cells #[.int .i64 0] 3)).alloc (.cells #[.bool false] 4)) ∧ W.heap.size = H + 3 ∧ Mod (fun _ => False) w W ∧
    Blk W H 28 [.slice none 0 0] ∧ Blk W (H + 1) 3 [.int .i64 0] ∧ Blk W (H + 2) 4 [.bool false] := by
  have hs : ∀ (w : World) (o : Obj) (k : Nat), w.heap.size = k → (w.alloc o).heap.size = k + 1 := fun w o k h => by rw [World.size_alloc, h]
  have s1 := hs w (.cells #[.slice none 0 0] 28) H hH
  have s2 := hs _ (.cells #[.int .i64 0] 3) _ s1
  have s3 := hs _ (.cells #[.bool false] 4) _ s2
  have nb : ∀ (w : World) (k : Nat) (c : Array Value) (T : TypeId), w.heap.size = k → Blk (w.alloc (.cells c T)) k T c.toList := fun w k c T h => by subst h; exact Blk.new' w c T
  refine ⟨_, rfl, s3, (((Mod.refl _ _).alloc _).alloc _).alloc _, ?_, ?_, ?_⟩
  · exact ((nb w H _ _ hH).alloc _).alloc _
  · exact (nb _ _ _ _ s1).alloc _
  · exact nb _ _ _ _ s2

/-- What the tree is behind k inserted points. -/
structure BS (W w' : World) (dims H tb n : Nat) (t0 : KB.T TP) (ins : List TP) (k : Nat) (mt : MT) (is : List TP) : Prop where
  tin : TrIn w' dims tb (n + k) mt
  tree : mt.T = KB.inss leB dims t0 is
  same : is.map TP.xs = (ins.take k).map TP.xs
  gr : ∀ p ∈ is, p.Gr
  low : H ≤ tb ∧ ∀ g ∈ mt.gs, H ≤ g
  mod : Mod (fun _ => False) W w'

theorem BS.step {W wr w1 w2 : World} {dims H tb n k : Nat} {t0 : KB.T TP} {ins is : List TP} {mt : MT} {q p : TP} (h : BS W wr dims H tb n t0 ins k mt is) (hH : W.heap.size = H) (hp : q.xs = p.xs) (hk : ins.take (k + 1) = ins.take k ++ [p]) (hg : q.Gr) (h1 : Mod (fun _ => False) wr w1)
    {e : Ending} (ht : TInsTold dims tb (n + k) q mt w1 e w2) : e = .returned (.tuple #[]) ∧ ∃ mt', BS W w2 dims H tb n t0 ins (k + 1) mt' (is ++ [q]) := by
  obtain ⟨mt', he, a1, a2, a3, a4⟩ := ht
  have s1 := h1.size
  have s0 := h.mod.size
  refine ⟨he, mt', ⟨a1, by rw [a2, h.tree, KB.inss_snoc], by rw [List.map_append, h.same, hk, List.map_append]; simp [hp], fun x hx => ?_, ⟨h.low.1, fun g hg => ?_⟩, (h.mod.trans h1).trans' a4 fun i hi hi2 => ?_⟩⟩
  · rcases List.mem_append.1 hx with hx | hx
    · exact h.gr x hx
    · rw [List.mem_singleton.1 hx]; exact hg
  · rcases a3 g hg with h2 | h2
    · exact h.low.2 g h2
    · omega
  · rcases hi2 with h2 | h2
    · have := h.low.1; omega
    · have := h.low.2 i h2; omega

/-- What KBuild tells. -/
def KbTold (dims n m : Nat) (ps ins : List TP) (ks : List Nat) (w : World) (e : Ending) (w' : World) : Prop :=
  ∃ (v : Value) (rs : List KR) (mt : MT) (qs is : List TP), e = .returned (.tuple #[v, .int .i64 ((n + m : Nat) : Int), .bool true]) ∧ KS w.heap.size w' dims v rs ∧ rs.map KR.plain = mt.flat 0 ∧ mt.T = KB.inss leB dims (KB.build leB dims n qs ks 0).1 is ∧ mt.bare ∧
    qs.map TP.xs = ps.map TP.xs ∧ is.map TP.xs = ins.map TP.xs ∧ Mod (fun _ => False) w w' ∧ (∃ A c, v = .slice A rs.length c)

theorem gr_same {ps qs : List TP} (h : qs.map TP.xs = ps.map TP.xs) (hg : ∀ p ∈ ps, p.Gr) : ∀ q ∈ qs, q.Gr := by
  intro q hq
  have : q.xs ∈ ps.map TP.xs := by rw [← h]; exact List.mem_map_of_mem hq
  obtain ⟨p, hp, e⟩ := List.mem_map.1 this
  have := hg p hp
  unfold TP.Gr TP.n at *
  rw [← e]
  exact this

/-- What stands ahead of New. -/
theorem kb_ready {w4 w6 : World} {dims pb nk : Nat} {A4 : Option Addr} {c4 : Nat} {ks : List Nat} {qs : List TP} (hnk : ks.length = nk) (h4 : Sl w4 A4 nk 1 (ints (ks.map Int.ofNat))) (hc : nk ≤ c4 ∧ c4 ≤ 9223372036854775807) (hks : ∀ k ∈ ks, k ≤ 9223372036854775807)
    (h6 : Mod (fun _ => False) (w4.alloc (.cells #[.slice A4 nk c4] 23)) w6) (hpb : (w4.alloc (.cells #[.slice A4 nk c4] 23)).heap.size ≤ pb) (hq : ∀ p ∈ qs, p.Okp w6 dims pb ∧ ∀ b o, p.A = some ⟨b, o, none⟩ → (w4.alloc (.cells #[.slice A4 nk c4] 23)).heap.size ≤ b) :
    w4.heap.size ≠ pb ∧ WinOk w6 dims pb w4.heap.size qs ∧ PK w6 w4.heap.size pb ks := by
  subst hnk
  rw [World.size_alloc] at hpb hq
  refine ⟨by omega, ⟨fun p hp => (hq p hp).1, fun p hp b o e => by have := (hq p hp).2 b o e; omega⟩, A4, c4, (Blk.new' w4 _ _).mod h6 (fun h => h), (h4.alloc _).mod h6, hc.1, hc.2, hks, fun h0 b o e => ?_⟩
  have := h4.far (by omega) h0 b o e
  constructor <;> omega

theorem gr_xs {p q : TP} (h : p.Gr) (e : q.xs = p.xs) : q.Gr := by
  unfold TP.Gr TP.n at *
  rw [e]
  exact h

theorem TrIn.mod {w w' : World} {dims tb n : Nat} {mt : MT} (h : TrIn w dims tb n mt) (hm : Mod (fun _ => False) w w') : TrIn w' dims tb n mt := by
  obtain ⟨v, hb, hin⟩ := h.tree
  exact ⟨⟨v, hb.mod hm (fun h => h), hin.mod hm (fun _ _ h => h)⟩, h.nodup, h.apart, h.bare, h.each, fun p hp => ⟨(h.pts p hp).1.mod0 hm, (h.pts p hp).2⟩⟩

theorem MT.count_pts : ∀ t : MT, t.pts.length = t.count := by
  intro t
  induction t with
  | nil => rfl
  | node g p d bx l r ihl ihr => simp only [MT.pts, MT.count, List.length_append, List.length_cons, ihl, ihr]; omega

theorem kb_count {dims : Nat} {t0 : KB.T TP} {mt : MT} {is : List TP} (h : mt.T = KB.inss leB dims t0 is) : mt.count = t0.all.length + is.length := by
  rw [← MT.count_pts, MT.pts_all, h, (KB.inss_perm leB dims is t0).length_eq, List.length_append]

theorem kb_size {dims n : Nat} {ks : List Nat} {qs : List TP} (hd : 0 < dims) (hl : qs.length = n) : (KB.build leB dims n qs ks 0).1.all.length = n := by
  rw [(KB.build_all leB dims hd n qs ks 0 (by omega) hd).1.length_eq, hl]

theorem KS.keepB {B B' : Nat} {w W : World} {dims : Nat} {v : Value} {rs : List KR} (h : KS B w dims v rs) (hk : ∀ j, B ≤ j → W.heap[j]? = w.heap[j]?) (hB : B' ≤ B) : KS B' W dims v rs := by
  have kp : ∀ p : TP, p.Own B w dims v → p.Own B' W dims v := fun p hp => by
    refine ⟨⟨hp.1.1, hp.1.2.1, fun h0 => ?_⟩, fun b o e => ⟨by have := (hp.2 b o e).1; omega, (hp.2 b o e).2⟩⟩
    obtain ⟨b, o, e, hc⟩ := hp.1.2.2 h0
    exact ⟨b, o, e, fun j u hu => (World.cell?_of_block (w := w) (hk b (hp.2 b o e).1)).trans (hc j u hu)⟩
  refine ⟨⟨h.own.1, ?_⟩, fun x hx => ⟨kp _ (h.ok x hx).1, (h.ok x hx).2.1.imp id (kp _), (h.ok x hx).2.2.imp id (kp _)⟩⟩
  rcases h.own.2 with h | ⟨g, cap, cur, e1, hB1, hg, rest⟩
  · exact .inl h
  · exact .inr ⟨g, cap, cur, e1, by omega, (hk g hB1).trans hg, rest⟩

theorem kb_first {W3 w4 w6 w7 : World} {dims H tb n pb : Nat} {o : Obj} {qs ins : List TP} {ks : List Nat} {mt : MT} (h3 : W3.heap.size = H + 3) (h4 : Mod (fun _ => False) W3 w4) (h6 : Mod (fun _ => False) (w4.alloc o) w6) (hpb : (w4.alloc o).heap.size ≤ pb)
    (t1 : TrIn w7 dims tb n mt) (t2 : mt.T = (KB.build leB dims n qs ks 0).1) (t3 : w6.heap.size ≤ tb) (t4 : ∀ g ∈ mt.gs, w6.heap.size ≤ g) (t5 : Mod (fun k => k = pb ∨ k = w4.heap.size) w6 w7) :
    ∃ t0, t0 = (KB.build leB dims n qs ks 0).1 ∧ BS W3 w7 dims (H + 3) tb n t0 ins 0 mt [] := by
  have s4 := h4.size
  have s6 := h6.size
  rw [World.size_alloc] at s6 hpb
  refine ⟨_, rfl, by simpa using t1, t2, rfl, (fun p hp => by cases hp), ⟨by omega, fun g hg => by have := t4 g hg; omega⟩, ((h4.alloc o).trans h6).trans' t5 fun i hi h => by omega⟩

set_option maxRecDepth 100000 in
set_option maxHeartbeats 8000000 in
theorem kbuild_at (O P I : Option Addr) (n c nk cp m ci dims : Nat) (ps ins : List TP) (ks : List Nat) (w : World) (hp : PRows w O n ps dims) (hi : PRows w I m ins dims) (hnk : ks.length = nk) (hk : Sl w P nk 1 (ints (ks.map Int.ofNat))) (hkA : P = none → cp = 0) (hks : ∀ k ∈ ks, k ≤ 9223372036854775807)
    (hg : ∀ p ∈ ps, p.Gr) (hgi : ∀ p ∈ ins, p.Gr) (hn : n + m ≤ 1000000 ∧ nk ≤ 1000000) (hdm : 0 < dims ∧ dims ≤ 1099511627776) :
    Calls Try.prog 10 #[.slice O n c, .slice P nk cp, .bool false, .slice I m ci] w (KbTold dims n m ps ins ks w) := by
  have hmf : ∀ (fn : Fn) (first cap : Array Value) (w : World), (Instr.makeFunc fn first cap).run Try.prog w = .ok (.func fn first cap) w := fun _ _ _ _ => rfl
  obtain ⟨H, hH⟩ : ∃ H, w.heap.size = H := ⟨_, rfl⟩
  obtain ⟨W3, eW3, z3, m3, q0, q1, q2⟩ := init3 w H hH
  have H3 : Hid (W3.heap.size = H + 3 ∧ Mod (fun _ => False) w W3 ∧ Blk W3 H 28 [.slice none 0 0] ∧ Blk W3 (H + 1) 3 [.int .i64 0] ∧ Blk W3 (H + 2) 4 [.bool false]) := ⟨z3, m3, q0, q1, q2⟩
  have HEW := Lib.hid eW3
  have HP := Lib.hid (And.intro hp (And.intro hi (And.intro hnk (And.intro hk (And.intro hks (And.intro hg hgi))))))
  have HKA := Lib.hid hkA
  clear hp hi hnk hk hkA hks hg hgi z3 m3 q0 q1 q2 eW3
  go_enter_defers Try.func10, Try.ntmps10
  go_wp2_with (first
    | (go_at_call 29; rw [← HEW.out]; refine (ints_any P nk cp (ks.map Int.ofNat) W3 (HP.out.2.2.2.1.mod H3.out.2.1) (by omega) HKA.out).mono ?_; rintro _ w4 ⟨A4, c4, rfl, hs4, hm4, hc4, hcc4, hb4⟩; have H4 := Lib.hid (And.intro hs4 (And.intro hm4 (And.intro hc4 (And.intro hcc4 hb4)))); clear hs4 hm4 hc4 hcc4 hb4)
    | (go_at_call 31; go_loud (refine (kpoints_at O n c dims ps _ (HP.out.1.mod ((H3.out.2.1.trans H4.out.2.1).alloc _)) (by omega) hdm).mono ?_; rintro _ w6 ⟨X, cX, pb, qs, rfl, k1, k2, k3, k4, k5, k6, k7, k8⟩; have H6 := Lib.hid (And.intro k1 (And.intro k2 (And.intro k3 (And.intro k4 (And.intro k5 (And.intro k6 (And.intro k7 k8))))))); have HR := Lib.hid (kb_ready HP.out.2.2.1 H4.out.1 ⟨H4.out.2.2.1, H4.out.2.2.2.1⟩ HP.out.2.2.2.2.1 k5 k6 k8); clear k1 k2 k3 k4 k5 k6 k7 k8))
    | (go_at_call 30; go_loud (refine (new_at _ dims pb w4.heap.size n cX X qs ks HR.out.1 hdm H6.out.1 H6.out.2.2.2.2.2.2.1 HR.out.2.1 (gr_same H6.out.2.1 HP.out.2.2.2.2.2.1) HR.out.2.2 (by omega) H6.out.2.2.1 H6.out.2.2.2.1).mono ?_; rintro _ w7 ⟨tb, mt0, rfl, t1, t2, t3, t4, t5⟩; have HB : Hid (∃ t0, t0 = (KB.build leB dims n qs ks 0).1 ∧ BS W3 w7 dims (H + 3) tb n t0 ins 0 mt0 []) := kb_first H3.out.1 H4.out.2.1 H6.out.2.2.2.2.1 H6.out.2.2.2.2.2.1 t1 t2 t3 t4 t5; clear t1 t2 t3 t4 t5)))
  obtain ⟨t0, ht0, hB0⟩ := HB.out
  have HT0 := Lib.hid ht0
  have HB0 := Lib.hid hB0
  clear ht0 hB0
  go_loopw [26] (fun i w' => ∃ (k : Nat) (mt : MT) (is : List TP), k ≤ m ∧ i = .int .i64 k ∧ Hid (BS W3 w' dims (H + 3) tb n t0 ins k mt is)) (fun i _ => m - (intOf i).toNat)
  case atStart => exact ⟨0, mt0, [], Nat.zero_le _, rfl, HB0.out⟩
  case round =>
    obtain ⟨k, mt, is, hk, rfl, HR2⟩ := hrel
    by_cases hlt : k < m
    · have hpi := HP.out.2.1.mod (H3.out.2.1.trans HR2.out.mod)
      obtain ⟨b, o, v0, e1, e2, c1⟩ := hpi.1.at1 hlt
      have hlen := hpi.len
      have hk2 : k < ins.length := by omega
      obtain ⟨p, ep⟩ : ∃ p, p = ins[k] := ⟨_, rfl⟩
      have hpm : p ∈ ins := by rw [ep]; exact List.getElem_mem hk2
      have hTK : ins.take (k + 1) = ins.take k ++ [p] := by rw [List.take_succ_eq_append_getElem hk2, ep]
      have e3 : (ins.map TP.v)[k]? = some p.v := by rw [ep]; simp [hk2]
      rw [e3] at e2
      cases e2
      obtain ⟨hrd, hpl⟩ := hpi.2 p hpm
      have c2 : wr.cell? ⟨b, o + k, none⟩ = some (.slice p.A dims p.c) := by rw [c1, ← hpl]; rfl
      have hsl : Sl wr p.A dims 1 (flts p.xs) := by rw [← hpl]; exact hrd.1
      have HS := Lib.hid (And.intro hsl (And.intro hpl (And.intro hTK (HP.out.2.2.2.2.2.2 p hpm))))
      subst e1
      clear hpi hlen hk2 ep hpm hTK e3 c1 hrd hpl hsl
      have i0' : (0 : Int) ≤ k := by omega
      have i1' : (k : Int) < m := by omega
      go_wp2_with (first
        | (go_at_call 33; refine (floats_any p.A dims p.c p.xs _ HS.out.1 hdm.2 hdm.1).mono ?_; rintro _ w1 ⟨A2, cc2, rfl, hs2, hm2, hb2⟩; have HW := Lib.hid (And.intro hs2 (And.intro hm2 hb2)); clear hs2 hm2 hb2)
        | (go_at_call 32; refine (tinsert_at _ dims tb (n + k) ⟨A2, cc2, p.xs⟩ mt hdm (HR2.out.tin.mod HW.out.2.1) ⟨HS.out.2.1, by show Sl w1 A2 p.xs.length 1 _; rw [HS.out.2.1]; exact HW.out.1⟩ (gr_xs HS.out.2.2.2 rfl) (by omega)).mono ?_; rintro _ w2 he; obtain ⟨rfl, mt', hB'⟩ := HR2.out.step (q := ⟨A2, cc2, p.xs⟩) (p := p) H3.out.1 rfl HS.out.2.2.1 (gr_xs HS.out.2.2.2 rfl) HW.out.2.1 he; have HB' := Lib.hid hB'; clear hB' he))
      go_roundw
      case rel => exact ⟨k + 1, mt', is ++ [⟨A2, cc2, p.xs⟩], by omega, by go_num, HB'⟩
      case measure => simp [intOf]; omega
    · obtain rfl : k = m := by omega
      obtain ⟨v, hb, hin⟩ := HR2.out.tin.tree
      obtain ⟨qv, rfl⟩ := hin.ptr
      have c0 := hb.at (i := 0) rfl
      have hnil := KS.nil (H + 3) wr dims
      have hin2 : KTr wr dims mt (.pointer qv) (.slice none 0 0) := ⟨hin, fun p hp => ⟨(HR2.out.tin.pts p hp).1, fun b o e e2 => by cases e2⟩, HR2.out.tin.bare⟩
      have hcount : ([] : List KR).length + mt.count ≤ 4294967296 := by
        have h1 := kb_count HR2.out.tree
        rw [HT0.out] at h1
        have h2 := kb_size (ks := ks) hdm.1 H6.out.1
        have h3 := congrArg List.length HR2.out.same
        rw [List.length_map, List.length_map, List.length_take] at h3
        simp only [List.length_nil]
        omega
      have HT1 := Lib.hid (And.intro hin2 (And.intro hnil hcount))
      have HT2 := Lib.hid (And.intro hb hin)
      have hHw : H + 3 ≤ wr.heap.size := by have h1 := HR2.out.mod.size; have h2 := H3.out.1; omega
      have htl := hb.lt
      clear hin2 hnil hcount hb hin
      go_wp2_with (go_at_call 34; refine (knodes_at (H + 3) dims hdm mt _ (.pointer qv) (.slice none 0 0) [] HT1.out.1 HT1.out.2.1 hHw HT1.out.2.2).mono ?_; rintro _ w5 ⟨v', rs, rfl, r1, r2, r3, r4, ⟨A5, c5, r5⟩⟩; obtain ⟨N, hN⟩ : ∃ N, N = ([] ++ rs : List KR).length := ⟨_, rfl⟩; rw [← hN] at r5; subst r5; have hm5 : Mod (fun _ => False) wr w5 := r3.mono (fun _ _ h => by cases h); have b0 := (H3.out.2.2.1.mod HR2.out.mod (fun h => h)).mod hm5 (fun h => h); have y0 := b0.at (i := 0) rfl; have z0 := b0.frozen 0; have H5 := Lib.hid (And.intro r1 (And.intro r2 (And.intro hm5 (And.intro b0 hN)))); clear r1 r2 r3 r4 hm5 b0 hN)
      have hlow := HR2.out.low.1
      have hmw5 : Mod (fun _ => False) w w5 := (H3.out.2.1.trans HR2.out.mod).trans H5.out.2.2.1
      obtain ⟨W6, eW6⟩ : ∃ W6, W6 = w5.setCell ⟨H, 0, none⟩ (.slice A5 N c5) := ⟨_, rfl⟩
      rw [← eW6]
      have d0 : Blk W6 H 28 [.slice A5 N c5] := by rw [eW6]; exact H5.out.2.2.2.1.set 0 _
      have d1 : Blk W6 (H + 1) 3 [.int .i64 0] := by rw [eW6]; exact ((H3.out.2.2.2.1.mod HR2.out.mod (fun h => h)).mod H5.out.2.2.1 (fun h => h)).other _ (by show H ≠ H + 1; omega)
      have d2 : Blk W6 (H + 2) 4 [.bool false] := by rw [eW6]; exact ((H3.out.2.2.2.2.mod HR2.out.mod (fun h => h)).mod H5.out.2.2.1 (fun h => h)).other _ (by show H ≠ H + 2; omega)
      have dt : Blk W6 tb 79 [.pointer qv, .int .i64 ((n + k : Nat) : Int)] := by rw [eW6]; exact (HT2.out.1.mod H5.out.2.2.1 (fun h => h)).other _ (by show H ≠ tb; omega)
      have hm6 : Mod (fun _ => False) w W6 := by rw [eW6]; exact hmw5.set (p := ⟨H, 0, none⟩) (.inr (by show w.heap.size ≤ H; omega)) _
      have hk6 : ∀ j, H + 3 ≤ j → W6.heap[j]? = w5.heap[j]? := fun j hj => by rw [eW6]; exact Below.heap_setCell _ _ _ _ (by show j ≠ H; omega)
      have x0 := d0.at (i := 0) rfl
      have x1 : W6.cell? ⟨H + 1, 0, none⟩ = some (.int .i64 0) := d1.at (i := 0) rfl
      have x2 : W6.cell? ⟨H + 1 + 1, 0, none⟩ = some (.bool false) := d2.at (i := 0) rfl
      have g0 := d0.frozen 0
      have g1 := d1.frozen 0
      have g2 : W6.frozen? ⟨H + 1 + 1, 0, none⟩ = false := d2.frozen 0
      have HD := Lib.hid (And.intro d0 (And.intro d1 (And.intro d2 (And.intro dt (And.intro hm6 hk6)))))
      clear d0 d1 d2 dt hm6 hk6 eW6 hmw5 y0 z0 c0
      have e1 := HD.out.1.set 0 (.slice A5 N c5)
      have e2 := e1.other (a := ⟨H + 1, 0, none⟩) (.int .i64 ((n : Int) + (k : Int))) (by show H + 1 ≠ H; omega)
      have e3 := e2.other (a := ⟨H + 1 + 1, 0, none⟩) (.bool true) (by show H + 1 + 1 ≠ H; omega)
      have v1 : (W6.setCell ⟨H, 0, none⟩ (.slice A5 N c5)).drew.cell? ⟨H, 0, none⟩ = some (.slice A5 N c5) := e1.drew.at (i := 0) rfl
      have v2 : ((W6.setCell ⟨H, 0, none⟩ (.slice A5 N c5)).setCell ⟨H + 1, 0, none⟩ (.int .i64 ((n : Int) + (k : Int)))).drew.cell? ⟨H, 0, none⟩ = some (.slice A5 N c5) := e2.drew.at (i := 0) rfl
      have v3 : (((W6.setCell ⟨H, 0, none⟩ (.slice A5 N c5)).setCell ⟨H + 1, 0, none⟩ (.int .i64 ((n : Int) + (k : Int)))).setCell ⟨H + 1 + 1, 0, none⟩ (.bool true)).drew.cell? ⟨H, 0, none⟩ = some (.slice A5 N c5) := e3.drew.at (i := 0) rfl
      have v0 : W6.drew.cell? ⟨H, 0, none⟩ = some (.slice A5 N c5) := x0
      have HV := Lib.hid (And.intro v1 (And.intro v2 v3))
      clear e1 e2 e3 v1 v2 v3
      go_region_held3 (fun w' => w'.cell? ⟨H, 0, none⟩ = some (.slice A5 N c5)) (first | with_reducible exact v0 | with_reducible exact HV.out.1 | with_reducible exact HV.out.2.1 | with_reducible exact HV.out.2.2 | go_keep)
        (first | (go_at_call 35; refine (tlen_at _ tb (n + k) (.pointer qv) (by first | exact HD.out.2.2.2.1 | exact HD.out.2.2.2.1.drew)).mono ?_; rintro _ _ ⟨rfl, rfl⟩))
      obtain ⟨W7, eW7⟩ : ∃ W7, W7 = (((W6.setCell ⟨H, 0, none⟩ (.slice A5 N c5)).setCell ⟨H + 1, 0, none⟩ (.int .i64 ((n : Int) + (k : Int)))).setCell ⟨H + 1 + 1, 0, none⟩ (.bool true)).drew := ⟨_, rfl⟩
      rw [← eW7]
      have r0 : W7.cell? ⟨H, 0, none⟩ = some (.slice A5 N c5) := by rw [eW7]; exact HV.out.2.2
      have r1 : W7.cell? ⟨H + 1, 0, none⟩ = some (.int .i64 ((n : Int) + (k : Int))) := by
        rw [eW7]
        have q1 := ((HD.out.2.1.other (a := ⟨H, 0, none⟩) (.slice A5 N c5) (by show H ≠ H + 1; omega)).set 0 (.int .i64 ((n : Int) + (k : Int)))).other (a := ⟨H + 1 + 1, 0, none⟩) (.bool true) (by show H + 1 + 1 ≠ H + 1; omega)
        exact q1.drew.at (i := 0) rfl
      have r2 : W7.cell? ⟨H + 1 + 1, 0, none⟩ = some (.bool true) := by
        rw [eW7]
        have q1 := ((HD.out.2.2.1.other (a := ⟨H, 0, none⟩) (.slice A5 N c5) (by show H ≠ H + 2; omega)).other (a := ⟨H + 1, 0, none⟩) (.int .i64 ((n : Int) + (k : Int))) (by show H + 1 ≠ H + 2; omega)).set 0 (.bool true)
        exact q1.drew.at (i := 0) rfl
      have hfin : KbTold dims n k ps ins ks w (.returned (.tuple #[.slice A5 N c5, .int .i64 ((n : Int) + (k : Int)), .bool true])) W7 := by
        obtain ⟨s1, s2, s3, s4, s5⟩ := H5.out
        rw [List.nil_append] at s1 s5
        refine ⟨_, rs, mt, qs, is, by rw [Int.natCast_add], s1.keepB (fun j hj => ?_) (by omega), s2, by rw [HR2.out.tree, HT0.out], HR2.out.tin.bare, H6.out.2.1, ?_, ?_, ⟨A5, c5, by rw [s5]⟩⟩
        · rw [eW7, show ∀ w : World, w.drew.heap = w.heap from fun _ => rfl, Below.heap_setCell _ _ _ _ (by show j ≠ H + 1 + 1; omega), Below.heap_setCell _ _ _ _ (by show j ≠ H + 1; omega), Below.heap_setCell _ _ _ _ (by show j ≠ H; omega)]
          exact HD.out.2.2.2.2.2 j hj
        · rw [HR2.out.same, List.take_of_length_le (by have := HP.out.2.1.len; omega)]
        · rw [eW7]
          exact (((HD.out.2.2.2.2.1.set (p := ⟨H, 0, none⟩) (.inr (by show w.heap.size ≤ H; omega)) _).set (p := ⟨H + 1, 0, none⟩) (.inr (by show w.heap.size ≤ H + 1; omega)) _).set (p := ⟨H + 1 + 1, 0, none⟩) (.inr (by show w.heap.size ≤ H + 1 + 1; omega)) _).drew
      have HFIN := Lib.hid hfin
      have HRR := Lib.hid (And.intro r0 (And.intro r1 r2))
      clear hfin r0 r1 r2 eW7 x0 x1 x2 g0 g1 g2 v0
      go_wp2_with fail
      refine leaves_cons (f := 28) (args := #[.pointer (some ⟨H, 0, none⟩), .pointer (some ⟨H + 1, 0, none⟩), .pointer (some ⟨H + 1 + 1, 0, none⟩)]) (by simp) (by simp [go_sem]) ?_
      refine (catch_idle3 ⟨H, 0, none⟩ ⟨H + 1, 0, none⟩ ⟨H + 1 + 1, 0, none⟩ _).mono ?_
      rintro e u' w'' ⟨rfl, rfl, rfl⟩
      obtain ⟨r0, r1, r2⟩ := HRR.out
      simp [Leaves, settle, results, Try.results10, go_sem, r0, r1, r2]
      exact HFIN.out
end Go.Proofs.Ytmeooadgdagiiaa

namespace Lox
open Go Go.RowKit
set_option linter.unusedVariables false

def INFB : Nat := 9218868437227405312

theorem inf_dec : FloatKind.f64.decode INFB = .infinity false := by decide +kernel

/-- A squared distance: infinite, or a whole number from 0 on. -/
def DV (x : Nat) : Option Int → Prop
  | none => x = INFB
  | some n => Gd 0 x n ∧ 0 ≤ n ∧ n ≤ 1125899906842624

def olt : Option Int → Option Int → Bool
  | none, _ => false
  | some _, none => true
  | some a, some b => decide (a < b)

def omin (a b : Option Int) : Option Int := if olt a b then a else b

theorem DV.num {x : Nat} {n : Int} (h : DV x (some n)) : ∃ s m i, FloatKind.f64.decode x = .number s m i := h.1.1

theorem DV.lt {x y : Nat} {d e : Option Int} (hx : DV x d) (hy : DV y e) : (FloatKind.f64.format.order x y == some .lt) = olt d e := by
  show ((FloatKind.f64.decode x).order (FloatKind.f64.decode y) == some .lt) = _
  cases d with
  | none =>
    have hx : x = INFB := hx
    rw [hx, inf_dec]
    cases e with
    | none => have hy : y = INFB := hy; rw [hy, inf_dec]; decide
    | some b => obtain ⟨s, m, i, e⟩ := hy.num; rw [e]; rfl
  | some a =>
    cases e with
    | none => have hy : y = INFB := hy; obtain ⟨s, m, i, e⟩ := hx.num; rw [hy, inf_dec, e]; rfl
    | some b =>
      have := hx.1.lt hy.1
      exact this

theorem dv_order {x y : Nat} {d e : Option Int} (hx : DV x d) (hy : DV y e) : ∃ o, (FloatKind.f64.decode x).order (FloatKind.f64.decode y) = some o := by
  have hn : ∀ (x : Nat) (d : Option Int), DV x d → (FloatKind.f64.decode x).isNaN = false := fun x d h => by
    cases d with
    | none => have h : x = INFB := h; rw [h, inf_dec]; rfl
    | some n => obtain ⟨s, m, i, e⟩ := h.num; rw [e]; rfl
  have h1 := hn x d hx
  have h2 := hn y e hy
  cases ha : FloatKind.f64.decode x <;> cases hb : FloatKind.f64.decode y <;> simp [Ieee.Datum.order, Ieee.Datum.isNaN, ha, hb] at h1 h2 ⊢

theorem gd_zero {x : Nat} {n : Int} (h : Gd 0 x n) (hz : (FloatKind.f64.decode x).isZero = true) : n = 0 := by
  have hz0 : Gd 0 0 0 := gd0_of_is is_zero
  have h1 := h.eq hz0
  obtain ⟨s, m, i, e⟩ := h.1
  rw [e] at hz
  have hm : m = 0 := by
    cases m with
    | zero => rfl
    | succ m => exact absurd hz (by simp [Ieee.Datum.isZero])
  subst hm
  have hv : vl x = 0 := by unfold vl; rw [e]; simp [dv]
  have h2 := or_eq h.1 hz0.1
  have hv0 : vl 0 = 0 := by rw [is_zero.2]; rfl
  rw [hv, hv0] at h2
  rw [h2] at h1
  simpa using h1

theorem dv_min {x y : Nat} {d e : Option Int} (hx : DV x d) (hy : DV y e) : ∃ r, Extern.MathDim.pick "math.archMin" true .lt #[.float .f64 x, .float .f64 y] = pure (.float .f64 r) ∧ DV r (omin d e) := by
  have hlt := hx.lt hy
  have hni : ∀ (x : Nat) (d : Option Int), DV x d → (FloatKind.f64.decode x == .infinity true) = false ∧ (FloatKind.f64.decode x).isNaN = false := fun x d h => by
    cases d with
    | none => have h : x = INFB := h; rw [h, inf_dec]; exact ⟨by decide, rfl⟩
    | some n => obtain ⟨s, m, i, e⟩ := h.num; rw [e]; exact ⟨rfl, rfl⟩
  obtain ⟨a1, a2⟩ := hni x d hx
  obtain ⟨b1, b2⟩ := hni y e hy
  have key : ∀ a b, FloatKind.f64.decode x = a → FloatKind.f64.decode y = b → Extern.MathDim.pick "math.archMin" true .lt #[.float .f64 x, .float .f64 y] = pure (.float .f64 (if a == .infinity true || b == .infinity true then FloatKind.f64.encode (.infinity true) else if a.isNaN || b.isNaN then 0x7FF8000000000001 else if a.isZero && b.isZero then (if a.neg == true then x else y) else if a.order b == some .lt then x else y)) := by
    rintro a b rfl rfl
    rfl
  have hk := key _ _ rfl rfl
  rw [hk]
  simp only [a1, a2, b1, b2, Bool.or_false, Bool.false_eq_true, if_false]
  by_cases hz : ((FloatKind.f64.decode x).isZero && (FloatKind.f64.decode y).isZero) = true
  · rw [if_pos hz]
    rw [Bool.and_eq_true] at hz
    have hd : d = some 0 := by
      cases d with
      | none => have h : x = INFB := hx; rw [h, inf_dec] at hz; cases hz.1
      | some n => rw [gd_zero hx.1 hz.1]
    have he : e = some 0 := by
      cases e with
      | none => have h : y = INFB := hy; rw [h, inf_dec] at hz; cases hz.2
      | some n => rw [gd_zero hy.1 hz.2]
    subst hd he
    refine ⟨_, rfl, ?_⟩
    have : omin (some 0) (some 0) = some 0 := rfl
    rw [this]
    split
    · exact hx
    · exact hy
  · rw [if_neg hz]
    refine ⟨_, rfl, ?_⟩
    have hlt' : ((FloatKind.f64.decode x).order (FloatKind.f64.decode y) == some .lt) = olt d e := hlt
    rw [hlt']
    unfold omin
    split
    · exact hx
    · exact hy
end Lox
namespace Go.Proofs.Ytmeooadgdagiiaa
open Go.RowKit Lox
set_option linter.unusedVariables false

theorem run_frombits (w : World) : (callFunc 77 #[.int .u64 9218868437227405312]).run Try.prog w = .ok (.value (.float .f64 INFB)) w := by
  rw [run_callFunc_extern Try.func77 (by kernel_rfl) (by kernel_rfl) (by kernel_rfl) (e := Extern.MathFloatBits.float64frombits) (by kernel_rfl)]
  kernel_rfl

set_option maxHeartbeats 400000 in
theorem inf_at (w : World) : Calls Try.prog 69 #[.int .i64 1] w fun e w' => e = .returned (.float .f64 INFB) ∧ w = w' := by
  have hf := run_frombits
  go_enter Try.func69, Try.ntmps69
  go_wp2
  go_ret
  exact ⟨rfl, rfl⟩

theorem run_min (x y : Nat) {d e : Option Int} (hx : DV x d) (hy : DV y e) : ∃ r, DV r (omin d e) ∧ ∀ w : World, (callFunc 84 #[.float .f64 x, .float .f64 y]).run Try.prog w = .ok (.value (.float .f64 r)) w := by
  obtain ⟨r, h1, h2⟩ := dv_min hx hy
  refine ⟨r, h2, fun w => ?_⟩
  rw [run_callFunc_extern Try.func84 (by kernel_rfl) (by kernel_rfl) (by kernel_rfl) (e := Extern.MathDim.pick "math.archMin" true .lt) (by kernel_rfl), h1]
  rfl

set_option maxHeartbeats 400000 in
theorem min_at (x y : Nat) (d e : Option Int) (w : World) (hx : DV x d) (hy : DV y e) : Calls Try.prog 78 #[.float .f64 x, .float .f64 y] w fun e' w' => (∃ r, e' = .returned (.float .f64 r) ∧ DV r (omin d e)) ∧ w = w' := by
  obtain ⟨r, h1, hf⟩ := run_min x y hx hy
  have H1 := Lib.hid h1
  clear h1 hx hy
  go_enter Try.func78, Try.ntmps78
  go_wp2
  go_ret
  exact ⟨⟨r, rfl, H1.out⟩, rfl⟩
end Go.Proofs.Ytmeooadgdagiiaa
