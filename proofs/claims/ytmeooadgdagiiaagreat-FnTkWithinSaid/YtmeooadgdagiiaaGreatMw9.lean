/- Steps of a proof, one behind another: The walk that writes a k-d tree down as rows of nodes. Conditions: a tree without boxes. The walk that makes a k-d tree of nodes that are written down. Conditions: as each theorem says. -/
import Derived.Test.YtmeooadgdagiiaaGreatMw8
import Derived.Deep.RegionHeld3
import Derived.Deep.RegionLaw
import Derived.Deep.DrawnRows
import Derived.Deep.DeepCutAuto
import Derived.IntWalk

namespace Go.Proofs.YtmeooadgdagiiaaGreat
open Go.RowKit Lox
set_option linter.unusedVariables false
attribute [local go_sem] run_store_flt run_store_fn
attribute [local go_sem ↓] Go.wp_at_zero Go.wp_at_succ

theorem info_knode : (Tryz.prog.info? 91).map (fun i => (i.zero, i.size, i.bytes)) = some (some (.agg #[.slice none 0 0, .int .i64 0, .int .i64 0, .int .i64 0, .slice none 0 0, .slice none 0 0]), 6, 96) := by kernel_rfl

theorem sl_set {w : World} {A : Option Addr} {n : Nat} {xs : List Value} (h : Sl w A n 1 xs) {a : Addr} (hne : ∀ b o, A = some ⟨b, o, none⟩ → b ≠ a.block) (u : Value) : Sl (w.setCell a u) A n 1 xs := by
  refine ⟨h.1, fun h0 => ?_⟩
  obtain ⟨b, o, e, hc⟩ := h.2 h0
  exact ⟨b, o, e, fun j v hv => (World.cell?_of_block (w := w) (Below.heap_setCell _ _ _ _ (hne b o e))).trans (hc j v hv)⟩

/-- What knodes tells. -/
def KnTold (B dims : Nat) (mt : MT) (ov : Value) (rs : List KR) (w : World) (e : Ending) (w' : World) : Prop :=
  ∃ (v' : Value) (rs' : List KR), e = .returned (.tuple #[v', .int .i64 (mt.at rs.length)]) ∧ KS B w' dims v' (rs ++ rs') ∧ rs'.map KR.plain = mt.flat rs.length ∧ Mod (fun k => ov.ownBlock = some k) w w' ∧ (v'.ownBlock = ov.ownBlock ∨ ∃ g, v'.ownBlock = some g ∧ w.heap.size ≤ g) ∧ (∃ A c, v' = .slice A (rs ++ rs').length c)

theorem kn_nil {B dims : Nat} {v : Value} {rs : List KR} {w : World} (h : KS B w dims v rs) : KnTold B dims .nil v rs w (.returned (.tuple #[v, .int .i64 (-1)])) w :=
  ⟨v, [], rfl, by rw [List.append_nil]; exact h, rfl, Mod.refl _ _, .inl rfl, by
    obtain ⟨A, c, e⟩ : ∃ A c, v = .slice A rs.length c := by
      rcases h.own.2 with ⟨rfl, h0⟩ | ⟨g, cap, cur, e1, _⟩
      · exact ⟨none, 0, by rw [h0]⟩
      · exact ⟨_, _, e1⟩
    rw [List.append_nil]; exact ⟨A, c, e⟩⟩

/-- A tree that may be written down: its points are there, apart from the row. -/
structure KTr (w : World) (dims : Nat) (mt : MT) (nv ov : Value) : Prop where
  tin : mt.In w nv
  pts : ∀ p ∈ mt.pts, p.Ok w dims ∧ ∀ b o, p.A = some ⟨b, o, none⟩ → ov.ownBlock ≠ some b
  bare : mt.bare

/-- The own block of v' is that of v, or a newer one. -/
def Newer (v v' : Value) (H : Nat) : Prop := v'.ownBlock = v.ownBlock ∨ ∃ g, v'.ownBlock = some g ∧ H ≤ g

theorem MT.In.node {w : World} : ∀ {t : MT} {v : Value}, t.In w v → ∀ k ∈ t.gs, ∃ ys, Blk w k 84 ys := by
  intro t
  induction t with
  | nil => intro v h k hk; cases hk
  | node g p d bx l r ihl ihr =>
    intro v h k hk
    obtain ⟨e, lv, rv, hb, hl, hr⟩ := h
    rcases List.mem_cons.1 hk with rfl | hk
    · exact ⟨_, hb⟩
    · rcases List.mem_append.1 hk with hk | hk
      · exact ihl hl k hk
      · exact ihr hr k hk

theorem KTr.keep {w W : World} {dims B n : Nat} {t : MT} {nv ov v' : Value} {xs : List Value} (hd : 0 < dims) (h : KTr w dims t nv ov) (ho : w.ownsRow B 91 6 ov n xs) (hk : ∀ k, k < w.heap.size → ov.ownBlock ≠ some k → W.heap[k]? = w.heap[k]?) (hv : Newer ov v' w.heap.size) : KTr W dims t nv v' := by
  refine ⟨h.tin.keep fun k hkg hkl => hk k hkl ?_, fun p hp => ⟨?_, fun b o e e2 => ?_⟩, h.bare⟩
  · obtain ⟨ys, hb⟩ := h.tin.node k hkg
    exact owns_ne ho hb (by decide)
  · obtain ⟨h1, h2⟩ := h.pts p hp
    refine ⟨h1.1, h1.2.1, fun h0 => ?_⟩
    obtain ⟨b, o, e, hc⟩ := h1.2.2 h0
    exact ⟨b, o, e, fun j u hu => (World.cell?_of_block (w := w) (hk b (lt_of_cell (hc j u hu)) (h2 b o e))).trans (hc j u hu)⟩
  · obtain ⟨h1, h2⟩ := h.pts p hp
    have hlt : b < w.heap.size := (h1.2.far (by omega)) (by rw [h1.1]; exact hd) b o e
    rcases hv with h3 | ⟨g, h3, h4⟩
    · rw [h3] at e2; exact h2 b o e e2
    · rw [h3] at e2
      injection e2 with e2
      omega

theorem Newer.of_at {v : Value} {g H n cap : Nat} (h : v.ownBlock = some g ∨ g = H + 1) : Newer v (.slice (some ⟨g, 0, none⟩) n cap) H := by
  rcases h with h | h
  · exact .inl h.symm
  · exact .inr ⟨g, rfl, by omega⟩

theorem Newer.trans {a b c : Value} {H K : Nat} (h : Newer a b H) (k : Newer b c K) (hHK : H ≤ K) : Newer a c H := by
  rcases k with k | ⟨g, k1, k2⟩
  · rcases h with h | ⟨g, h1, h2⟩
    · exact .inl (k.trans h)
    · exact .inr ⟨g, k.trans h1, h2⟩
  · exact .inr ⟨g, k1, by omega⟩

/-- The blocks that a row's writing may turn, seen from the beginning. -/
theorem Mod.newer {a b c : World} {v v' : Value} (h : Mod (fun k => v.ownBlock = some k) a b) (k : Mod (fun k => v'.ownBlock = some k) b c) (hn : Newer v v' a.heap.size) : Mod (fun k => v.ownBlock = some k) a c :=
  h.trans' k fun i hi e => by
    rcases hn with hn | ⟨g, h1, h2⟩
    · rw [← hn]; exact e
    · rw [h1] at e
      injection e with e
      omega

theorem set_mid {α : Type} (A B : List α) (x y : α) : (A ++ x :: B).set A.length y = A ++ y :: B := by
  rw [List.set_append_right _ _ (Nat.le_refl _), Nat.sub_self]; rfl

theorem kn_end {B dims m g g2 N c2 pl : Nat} {p : TP} {l r : MT} {ov v1 v2 : Value} {rs rs1 rs2 : List KR} {x : KR} {w w3 w4 w5 : World} (hm : m = rs.length) (hx : x.plain = ⟨p.xs, pl, 0, 0, [], []⟩)
    (hB : B ≤ w.heap.size) (h3 : Mod (fun k => ov.ownBlock = some k) w w3) (n3 : Newer ov v1 w.heap.size)
    (h4 : Mod (fun k => v1.ownBlock = some k) w3 w4) (n4 : Newer v1 v2 w3.heap.size) (h5 : Mod (fun k => v2.ownBlock = some k) w4 w5) (n5 : Newer v2 (.slice (some ⟨g2, 0, none⟩) N c2) w4.heap.size)
    (hp1 : rs1.map KR.plain = l.flat (m + 1)) (hp2 : rs2.map KR.plain = r.flat (m + 1 + l.count)) (hK : KS B w5 dims (.slice (some ⟨g2, 0, none⟩) N c2) (((rs ++ [x]) ++ rs1) ++ rs2)) (hN : N = (((rs ++ [x]) ++ rs1) ++ rs2).length) :
    KnTold B dims (.node g p pl none l r) ov rs w (.returned (.tuple #[.slice (some ⟨g2, 0, none⟩) N c2, .int .i64 m]))
      ((w5.setCell ⟨g2, m * 6 + 2, none⟩ (.int .i64 (l.at (m + 1)))).setCell ⟨g2, m * 6 + 3, none⟩ (.int .i64 (r.at (m + 1 + l.count)))) := by
  have e0 : (((rs ++ [x]) ++ rs1) ++ rs2) = rs ++ x :: (rs1 ++ rs2) := by simp
  have hget : (((rs ++ [x]) ++ rs1) ++ rs2)[m]? = some x := by rw [e0, hm]; simp
  have hs := hK.sides hN hget (l.at (m + 1)) (r.at (m + 1 + l.count))
  rw [e0, hm, set_mid] at hs
  have s3 := h3.size
  have s4 := h4.size
  have s5 := h5.size
  have n1 : Newer ov v2 w.heap.size := n3.trans n4 s3
  have n2 : Newer ov (.slice (some ⟨g2, 0, none⟩) N c2) w.heap.size := n1.trans n5 (by omega)
  refine ⟨_, _, by rw [hm]; rfl, by rw [hm]; exact hs, ?_, ?_, ?_, ⟨some ⟨g2, 0, none⟩, c2, by rw [hN]; simp⟩⟩
  · obtain ⟨xp, xpl, xl, xr, xmn, xmx⟩ := x
    simp only [KR.plain, PR.mk.injEq] at hx
    obtain ⟨a1, a2, a3, a4, a5, a6⟩ := hx
    simp only [List.map_cons, List.map_append, hp1, hp2, MT.flat, KR.plain, ← hm, a1, a2, a5, a6, boxMn, boxMx]
  · have h35 : Mod (fun k => ov.ownBlock = some k) w w5 := Mod.newer (Mod.newer h3 h4 n3) h5 n1
    have hg2 : ov.ownBlock = some g2 ∨ w.heap.size ≤ g2 := by
      rcases n2 with n2 | ⟨g', n2, n2'⟩
      · exact .inl n2.symm
      · have e : some g2 = some g' := n2
        injection e with e
        exact .inr (by omega)
    exact (h35.set (p := ⟨g2, m * 6 + 2, none⟩) hg2 _).set (p := ⟨g2, m * 6 + 3, none⟩) hg2 _
  · exact n2

/-- What stands behind the append of a node. -/
structure KnAt (B dims g pl : Nat) (p : TP) (l r : MT) (ql qr : Option Addr) (v : Value) (rs : List KR) (W : World) : Prop where
  ks : KS B W dims v rs
  blk : Blk W g 84 (nodeCells p pl (.pointer ql) (.pointer qr) none)
  tl : KTr W dims l (.pointer ql) v
  tr : KTr W dims r (.pointer qr) v

theorem kn_push {B dims m g gg cap pl : Nat} {p : TP} {l r : MT} {ql qr A : Option Addr} {c : Nat} {rs : List KR} {x : KR} {w wc w3 : World} {o : Obj} (hd : 0 < dims) (hm : m = rs.length) (hmw : Mod (fun _ => False) w wc)
    (hK : KS B wc dims (.slice A m c) rs) (hx : x.p.Own B wc dims (.slice A m c) ∧ x.mn.Own0 B wc dims (.slice A m c) ∧ x.mx.Own0 B wc dims (.slice A m c)) (hb : Blk wc g 84 (nodeCells p pl (.pointer ql) (.pointer qr) none))
    (hl : KTr w dims l (.pointer ql) (.slice A m c)) (hr : KTr w dims r (.pointer qr) (.slice A m c)) (ho : w.ownsRow B 91 6 (.slice A m c) rs.length (rs.flatMap KR.cells)) (hne : (Value.slice A m c).ownBlock ≠ some g)
    (hown : w3.ownsRow B 91 6 (.slice (some ⟨gg, 0, none⟩) (m + 1) cap) (m + 1) (rs.flatMap KR.cells ++ x.cells)) (hgrow : (wc.alloc o).grownBy w3 (Value.slice A m c).ownBlock) (hat : (Value.slice A m c).ownBlock = some gg ∨ gg = wc.heap.size + 1) :
    KnAt B dims g pl p l r ql qr (.slice (some ⟨gg, 0, none⟩) (m + 1) cap) (rs ++ [x]) w3 ∧ Newer (.slice A m c) (.slice (some ⟨gg, 0, none⟩) (m + 1) cap) w.heap.size ∧ Mod (fun k => (Value.slice A m c).ownBlock = some k) w w3 := by
  have hz := hmw.size
  have hk : ∀ k, k < w.heap.size → (Value.slice A m c).ownBlock ≠ some k → w3.heap[k]? = w.heap[k]? := fun k hk hn =>
    (hgrow.block k (by rw [World.size_alloc]; omega) (Ne.symm hn)).trans ((Below.heap_alloc _ _ _ (by omega)).trans (hmw.block k hk (fun h => h)))
  have hN : Newer (.slice A m c) (.slice (some ⟨gg, 0, none⟩) (m + 1) cap) w.heap.size := by
    rcases hat with h | h
    · exact .inl h.symm
    · exact .inr ⟨gg, rfl, by omega⟩
  refine ⟨⟨?_, (hb.alloc o).grown hgrow (Ne.symm hne), hl.keep hd ho hk hN, hr.keep hd ho hk hN⟩, hN, ?_⟩
  · subst hm
    exact hK.push hd hx hown hgrow hat
  · exact ((hmw.mono (fun _ _ h => h.elim) : Mod (fun k => (Value.slice A m c).ownBlock = some k) w wc).alloc o).grown hgrow (fun k e _ => e)

theorem KnAt.step {B dims g pl : Nat} {p : TP} {l r : MT} {ql qr : Option Addr} {v v' : Value} {rs rs' : List KR} {W W' : World} (hd : 0 < dims) (h : KnAt B dims g pl p l r ql qr v rs W) (hK : KS B W' dims v' rs') (hm : Mod (fun k => v.ownBlock = some k) W W') (hn : Newer v v' W.heap.size) : KnAt B dims g pl p l r ql qr v' rs' W' := by
  have hk : ∀ k, k < W.heap.size → v.ownBlock ≠ some k → W'.heap[k]? = W.heap[k]? := fun k hk hn => hm.block k hk hn
  exact ⟨hK, h.blk.mod hm (owns_ne h.ks.own h.blk (by decide)), h.tl.keep hd h.ks.own hk hn, h.tr.keep hd h.ks.own hk hn⟩

theorem kn_len2 {m : Nat} {l : MT} {a rs1 : List KR} (h : a.length = m + 1) (h1 : rs1.map KR.plain = l.flat (m + 1)) : (a ++ rs1).length = m + 1 + l.count := by
  have := congrArg List.length h1
  rw [List.length_map, MT.flat_len] at this
  rw [List.length_append, h, this]

theorem kn_pos {n : Nat} {rs rs1 rs2 : List KR} {x : KR} (h : n = (((rs ++ [x]) ++ rs1) ++ rs2).length) : 0 < n := by
  rw [h]; simp only [List.length_append, List.length_singleton]; omega

theorem kn_lt {n m : Nat} {rs rs1 rs2 : List KR} {x : KR} (hm : m = rs.length) (h : n = (((rs ++ [x]) ++ rs1) ++ rs2).length) : m < n := by
  rw [h]; simp only [List.length_append, List.length_singleton]; omega

theorem kn_get {m : Nat} {rs : List KR} (rs1 rs2 : List KR) (x : KR) (hm : m = rs.length) : (((rs ++ [x]) ++ rs1) ++ rs2)[m]? = some x := by
  have e0 : (((rs ++ [x]) ++ rs1) ++ rs2) = rs ++ x :: (rs1 ++ rs2) := by simp
  rw [e0, hm]
  simp

set_option maxRecDepth 100000 in
set_option maxHeartbeats 8000000 in
theorem knodes_at (B dims : Nat) (hdm : 0 < dims ∧ dims ≤ 1099511627776) (mt : MT) :
    ∀ (w : World) (nv ov : Value) (rs : List KR), KTr w dims mt nv ov → KS B w dims ov rs → B ≤ w.heap.size → rs.length + mt.count ≤ 4294967296 →
      Calls Tryz.prog 19 #[nv, ov] w (KnTold B dims mt ov rs w) := by
  have hta := run_assert_pt
  induction mt with
  | nil =>
    intro w nv ov rs hT hK hB hn
    have hv : nv = .pointer none := hT.tin
    subst hv
    have HK := Lib.hid hK
    obtain ⟨A, c, e⟩ : ∃ A c, ov = .slice A rs.length c := by
      rcases hK.own.2 with ⟨rfl, h0⟩ | ⟨g, cap, cur, e1, _⟩
      · exact ⟨none, 0, by rw [h0]⟩
      · exact ⟨_, _, e1⟩
    subst e
    clear hT hK
    go_enter Tryz.func19, Tryz.ntmps19
    go_wp2
    go_ret2
    exact kn_nil HK.out
  | node g p pl bx l r ihl ihr =>
    intro w nv ov rs hT hK hB hn
    obtain ⟨⟨hv, lv, rv, hb, hl, hr⟩, hP, hbx, hbl, hbr⟩ := hT
    subst hv hbx
    obtain ⟨ql, rfl⟩ := hl.ptr
    obtain ⟨qr, rfl⟩ := hr.ptr
    obtain ⟨A, c, e⟩ : ∃ A c, ov = .slice A rs.length c := by
      rcases hK.own.2 with ⟨rfl, h0⟩ | ⟨g, cap, cur, e1, _⟩
      · exact ⟨none, 0, by rw [h0]⟩
      · exact ⟨_, _, e1⟩
    subst e
    have hpp := hP p (by simp [MT.pts])
    have c0 : w.cell? ⟨g, 0, none⟩ = some (.iface 50 (.slice p.A dims p.c)) := by rw [← hpp.1.1]; exact hb.at (i := 0) rfl
    have c1 : w.cell? ⟨g, 1, none⟩ = some (.int .i64 pl) := hb.at (i := 1) rfl
    have c4 : w.cell? ⟨g, 4, none⟩ = some (.pointer none) := hb.at (i := 4) rfl
    have hgl := hb.lt
    have hsl : Sl w p.A dims 1 (flts p.xs) := by have := hpp.1.2; rw [hpp.1.1] at this; exact this
    obtain ⟨m, hm⟩ : ∃ m, m = rs.length := ⟨_, rfl⟩
    rw [← hm]
    have hmb : m ≤ 4294967296 := by simp only [MT.count] at hn; omega
    have H1 := Lib.hid (And.intro hsl (And.intro hpp (And.intro hm (And.intro hn hB))))
    have H2 := Lib.hid (And.intro hb (And.intro hl (And.intro hr (And.intro hP (And.intro hbl (And.intro hbr hK))))))
    have HIL := Lib.hid ihl
    have HIR := Lib.hid ihr
    clear hsl hpp hm hn hB hb hl hr hP hbl hbr hK ihl ihr
    go_enter Tryz.func19, Tryz.ntmps19
    go_wp2_with fail
    go_cut [7] from 15 to 50 (fun q wx => ∃ (kb : Nat) (A2 : Option Addr) (c2 : Nat), q = .pointer (some ⟨kb, 0, none⟩) ∧ w.heap.size ≤ kb ∧ Hid (Blk wx kb 91 [.slice A2 dims c2, .int .i64 pl, .int .i64 0, .int .i64 0, .slice none 0 0, .slice none 0 0] ∧ Sl wx A2 dims 1 (flts p.xs) ∧ (∀ b o, A2 = some ⟨b, o, none⟩ → w.heap.size ≤ b) ∧ Mod (fun _ => False) w wx))
    case first =>
      have KEEP : Hid (∀ W : World, Mod (fun _ => False) w W → W.cell? ⟨g, 0, none⟩ = some (.iface 50 (.slice p.A dims p.c)) ∧ W.cell? ⟨g, 1, none⟩ = some (.int .i64 pl)) := fun W hm => ⟨(hm.cell hgl (fun h => h)).trans c0, (hm.cell hgl (fun h => h)).trans c1⟩
      go_region_held3 (fun w' => w'.cell? ⟨g, 0, none⟩ = some (.iface 50 (.slice p.A dims p.c)) ∧ w'.cell? ⟨g, 1, none⟩ = some (.int .i64 pl)) (first | with_reducible exact KEEP.out _ HMA.out | with_reducible exact KEEP.out _ (HMA.out.alloc _) | with_reducible exact KEEP.out _ ((((((HMA.out.set (.inr (Nat.le_refl _)) _).set (.inr (Nat.le_refl _)) _).set (.inr (Nat.le_refl _)) _).set (.inr (Nat.le_refl _)) _).set (.inr (Nat.le_refl _)) _).set (.inr (Nat.le_refl _)) _) | with_reducible exact KEEP.out _ ((Mod.refl _ _).alloc _).drew | with_reducible exact KEEP.out _ (Mod.refl _ _).drew | with_reducible exact KEEP.out _ (Mod.refl _ _))
        (first | (go_at_call 18; refine (floats_any p.A dims p.c p.xs _ (by first | with_reducible exact H1.out.1.drew | with_reducible exact (H1.out.1.alloc _).drew) hdm.2 hdm.1).mono ?_; rintro _ w1 ⟨A2, cc2, rfl, hs2, hm2, hb2⟩; have hma : Mod (fun _ => False) w w1 := (by first | with_reducible exact (Mod.refl _ _).drew.trans hm2 | with_reducible exact ((Mod.refl _ _).alloc _).drew.trans hm2); (try (have B1 : Blk w1 w.heap.size 91 [.slice none 0 0, .int .i64 0, .int .i64 0, .int .i64 0, .slice none 0 0, .slice none 0 0] := (Blk.new' w #[.slice none 0 0, .int .i64 0, .int .i64 0, .int .i64 0, .slice none 0 0, .slice none 0 0] 91).drew.mod (by with_reducible exact hm2) (fun h => h); have y0 := B1.at (i := 0) rfl; have y1 := B1.at (i := 1) rfl; have y2 := B1.at (i := 2) rfl; have y3 := B1.at (i := 3) rfl; have y4 := B1.at (i := 4) rfl; have y5 := B1.at (i := 5) rfl; have z0 := B1.frozen 0; have z1 := B1.frozen 1; have z2 := B1.frozen 2; have z3 := B1.frozen 3; have z4 := B1.frozen 4; have z5 := B1.frozen 5; have HB1 := Lib.hid B1; clear B1)); have HMA := Lib.hid hma; have HW := Lib.hid (And.intro hs2 (And.intro hm2 hb2)); clear hs2 hm2 hb2 hma))
      all_goals
        have c4' : w1.cell? ⟨g, 4, none⟩ = some (.pointer none) := (HMA.out.cell hgl (fun h => h)).trans c4
        have hz1 := HMA.out.size
        have hg1 : g < w1.heap.size := by omega
        have hgw : g ≠ w.heap.size := by omega
        have hgw' : w.heap.size ≠ g := by omega
        go_wp2_with fail
        go_meet
        first
          | exact ⟨_, A2, cc2, rfl, hz1, Blk.new' _ _ _, HW.out.1.alloc _, fun b o e => HW.out.2.2 b o e, HMA.out.alloc _⟩
          | (have hb3 : ∀ b o, A2 = some ⟨b, o, none⟩ → w.heap.size + 1 ≤ b := fun b o e => by
               have := HW.out.2.2 b o e
               rw [show ∀ x : World, x.drew.heap.size = x.heap.size from fun _ => rfl, World.size_alloc] at this
               exact this
             have hne : ∀ b o, A2 = some ⟨b, o, none⟩ → b ≠ w.heap.size := fun b o e => by have := hb3 b o e; omega
             exact ⟨_, A2, cc2, rfl, Nat.le_refl _, (((((HB1.out.set 0 _).set 1 _).set 2 _).set 3 _).set 4 _).set 5 _, sl_set (sl_set (sl_set (sl_set (sl_set (sl_set HW.out.1 hne _) hne _) hne _) hne _) hne _) hne _, fun b o e => by have := hb3 b o e; omega, ((((((HMA.out.set (.inr (Nat.le_refl _)) _).set (.inr (Nat.le_refl _)) _).set (.inr (Nat.le_refl _)) _).set (.inr (Nat.le_refl _)) _).set (.inr (Nat.le_refl _)) _).set (.inr (Nat.le_refl _)) _)⟩)
    case rest =>
      obtain ⟨kb, A2, C2, rfl, hkb, HC⟩ := hcut
      have k0 := HC.out.1.at (i := 0) rfl
      have k1 := HC.out.1.at (i := 1) rfl
      have k2 := HC.out.1.at (i := 2) rfl
      have k3 := HC.out.1.at (i := 3) rfl
      have k4 := HC.out.1.at (i := 4) rfl
      have k5 := HC.out.1.at (i := 5) rfl
      obtain ⟨i0, hi0, hz0, hz1, hz2⟩ := info_parts info_knode
      have HI := Lib.hid (And.intro hi0 (And.intro hz0 (And.intro hz1 hz2)))
      have c4c : wc.cell? ⟨g, 4, none⟩ = some (.pointer none) := (HC.out.2.2.2.cell hgl (fun h => h)).trans c4
      clear hi0 hz0 hz1 hz2 c0 c1 c4
      obtain ⟨x, hx⟩ : ∃ x : KR, x = ⟨⟨A2, C2, p.xs⟩, pl, 0, 0, ⟨none, 0, []⟩, ⟨none, 0, []⟩⟩ := ⟨_, rfl⟩
      have hm := H1.out.2.2.1
      have hn := H1.out.2.2.2.1
      have hB := H1.out.2.2.2.2
      have hpd := H1.out.2.1.1.1
      obtain ⟨hb, hl, hr, hP, hbl, hbr, hK⟩ := H2.out
      have hmw := HC.out.2.2.2
      have hzc := hmw.size
      have hKc : KS B wc dims (.slice A m c) rs := by rw [hm]; exact hK.mod hmw
      have hown0 : w.ownsRow B 91 6 (.slice A m c) rs.length (rs.flatMap KR.cells) := by rw [hm]; exact hK.own
      have hxo : x.p.Own B wc dims (.slice A m c) := by
        rw [hx]
        refine ⟨⟨hpd, by show Sl wc A2 p.xs.length 1 _; rw [hpd]; exact HC.out.2.1⟩, fun b o e => ⟨by have := HC.out.2.2.1 b o e; omega, fun e2 => ?_⟩⟩
        have h1 := (own_block hown0 e2).2
        have h2 := HC.out.2.2.1 b o e
        omega
      have hxn : (⟨none, 0, []⟩ : TP).Own0 B wc dims (.slice A m c) := .inl rfl
      have hne : (Value.slice A m c).ownBlock ≠ some g := owns_ne hown0 hb (by decide)
      have hbc := hb.mod hmw (fun h => h)
      have hownc : wc.ownsRow B 91 6 (.slice A m c) m (rs.flatMap KR.cells) := by have := hKc.own; rw [← hm] at this; exact this
      have hTl : KTr w dims l (.pointer ql) (.slice A m c) := ⟨hl, fun q hq => by rw [hm]; exact hP q (by simp [MT.pts, hq]), hbl⟩
      have hTr : KTr w dims r (.pointer qr) (.slice A m c) := ⟨hr, fun q hq => by rw [hm]; exact hP q (by simp [MT.pts, hq]), hbr⟩
      have hw1 : IntKind.i64.wrap ((m : Int) + 1) = (m : Int) + 1 := IntWalk.i64_in _ (by omega)
      have HR : Hid (KS B wc dims (.slice A m c) rs ∧ x.p.Own B wc dims (.slice A m c) ∧ (⟨none, 0, []⟩ : TP).Own0 B wc dims (.slice A m c) ∧ Blk wc g 84 (nodeCells p pl (.pointer ql) (.pointer qr) none) ∧ wc.ownsRow B 91 6 (.slice A m c) m (rs.flatMap KR.cells) ∧ KTr w dims l (.pointer ql) (.slice A m c) ∧ KTr w dims r (.pointer qr) (.slice A m c) ∧ w.ownsRow B 91 6 (.slice A m c) rs.length (rs.flatMap KR.cells) ∧ (Value.slice A m c).ownBlock ≠ some g) := ⟨hKc, hxo, hxn, hbc, hownc, hTl, hTr, hown0, hne⟩
      have HX := Lib.hid hx
      have HZ : Hid (w.heap.size ≤ wc.heap.size ∧ B ≤ w.heap.size) := ⟨hzc, hB⟩
      have hcells : x.cells = [.slice A2 dims C2, .int .i64 pl, .int .i64 0, .int .i64 0, .slice none 0 0, .slice none 0 0] := by rw [hx]; show [Value.slice A2 p.xs.length C2, _, _, _, _, _] = _; rw [hpd]; rfl
      have HCX := Lib.hid hcells
      have tok1 : True := trivial
      clear hx hm hn hpd hb hl hr hP hbl hbr hK hmw hKc hown0 hxo hxn hne hbc hownc hTl hTr hcells hw1
      have tok2 : True := trivial
      have E1 : Hid ((rs ++ [x]).length = m + 1) := by show _ = _; rw [List.length_append, List.length_singleton, ← H1.out.2.2.1]
      have hm0 : (0 : Int) ≤ m := by omega
      go_wp2_with (first
        | (at_builtin; refine wpList_append_lies _ (by rfl) (.tmp 51) (.tmp 53) 29 (by rfl) B 91 i0 _ 6 96 Tryz.underlying29 HI.out.1 HI.out.2.1 HI.out.2.2.1 HI.out.2.2.2 rfl (by omega) (.slice A m c) m (rs.flatMap KR.cells) (by rfl) (HR.out.2.2.2.2.1.alloc _) ⟨wc.heap.size, 0, none⟩ 1 1 [.slice A2 dims C2, .int .i64 pl, .int .i64 0, .int .i64 0, .slice none 0 0, .slice none 0 0] (by rfl) (by rfl) (World.news_of_block (cs := #[.slice A2 dims C2, .int .i64 pl, .int .i64 0, .int .i64 0, .slice none 0 0, .slice none 0 0]) (t := 91) (fr := (0, 0)) (heap_alloc_new wc _)) (by simp [Value.oneCell']) (by omega) (by unfold maxLen; omega) (by omega) (by simp; omega) (wc.heap.size + 1) (by simp) ?_; intro gg cap w3 hown hgrow hat hlt3; have HP := Lib.hid (kn_push hdm.1 H1.out.2.2.1 HC.out.2.2.2 HR.out.1 ⟨HR.out.2.1, by rw [HX.out]; exact HR.out.2.2.1, by rw [HX.out]; exact HR.out.2.2.1⟩ HR.out.2.2.2.1 HR.out.2.2.2.2.2.1 HR.out.2.2.2.2.2.2.1 HR.out.2.2.2.2.2.2.2.1 HR.out.2.2.2.2.2.2.2.2 (by rw [HCX.out]; exact hown) hgrow hat); clear hown hgrow hat; have g2 : w3.cell? ⟨g, 2, none⟩ = some (.pointer ql) := HP.out.1.blk.at (i := 2) rfl)
        | (go_at_call 19; have _t := tok2; clear _t tok2; refine (HIL.out _ (.pointer ql) (.slice (some ⟨gg, 0, none⟩) (m + 1) cap) (rs ++ [x]) HP.out.1.tl HP.out.1.ks (by have := HP.out.2.2.size; have := HZ.out; omega) (by have h1 := H1.out.2.2.2.1; rw [List.length_append, List.length_singleton]; simp only [MT.count] at h1; omega)).mono ?_; rintro _ w4 ⟨v1, rs1, he, q1, q2, q3, q4, ⟨A1, c1, q5⟩⟩; rw [E1.out] at he q2; subst he; obtain ⟨n1, hn1⟩ : ∃ n1, n1 = ((rs ++ [x]) ++ rs1).length := ⟨_, rfl⟩; rw [← hn1] at q5; subst q5; have HQ1 := Lib.hid (And.intro (HP.out.1.step hdm.1 q1 q3 q4) (And.intro q2 (And.intro q3 (And.intro q4 hn1)))); clear q1 q2 q3 q4 hn1; have g3 : w4.cell? ⟨g, 3, none⟩ = some (.pointer qr) := HQ1.out.1.blk.at (i := 3) rfl)
        | (go_at_call 19; refine (HIR.out _ (.pointer qr) (.slice A1 n1 c1) ((rs ++ [x]) ++ rs1) HQ1.out.1.tr HQ1.out.1.ks (by have := HP.out.2.2.size; have := HQ1.out.2.2.1.size; have := HZ.out; omega) (by have h1 := H1.out.2.2.2.1; have h2 := congrArg List.length HQ1.out.2.1; rw [List.length_map, MT.flat_len] at h2; rw [List.length_append, List.length_append, List.length_singleton]; simp only [MT.count] at h1; omega)).mono ?_; rintro _ w5 ⟨v2, rs2, he, q1, q2, q3, q4, -⟩; rw [kn_len2 E1.out HQ1.out.2.1] at he q2; subst he; obtain ⟨n2, hn2⟩ : ∃ n2, n2 = (((rs ++ [x]) ++ rs1) ++ rs2).length := ⟨_, rfl⟩; obtain ⟨gb, c2, q5, -, -⟩ := q1.own.form (by rw [← hn2]; have := kn_pos hn2; omega); rw [← hn2] at q5; subst q5; have hget := kn_get rs1 rs2 x H1.out.2.2.1; have y2 := (q1.cell hn2 hget (j := 2) (by omega)); have y3 := (q1.cell hn2 hget (j := 3) (by omega)); rw [HCX.out] at y2 y3; have hmn : (m : Int) < n2 := (by have := kn_lt H1.out.2.2.1 hn2; omega); have HQ2 := Lib.hid (And.intro q1 (And.intro q2 (And.intro q3 (And.intro q4 hn2)))); clear q1 q2 q3 q4 hn2 hget; have y2' := y2.1; have z2' := y2.2; have y3' := y3.1; have z3' := y3.2; simp only [List.getElem?_cons_succ, List.getElem?_cons_zero] at y2' y3'; clear y2 y3))
      go_ret2
      exact kn_end (x := x) H1.out.2.2.1 (by rw [HX.out]; rfl) HZ.out.2 HP.out.2.2 HP.out.2.1 HQ1.out.2.2.1 HQ1.out.2.2.2.1 HQ2.out.2.2.1 HQ2.out.2.2.2.1 HQ1.out.2.1 HQ2.out.2.1 HQ2.out.1 HQ2.out.2.2.2.2
end Go.Proofs.YtmeooadgdagiiaaGreat

namespace Lox.KB
variable {α β : Type}
def T.map (f : α → β) : T α → T β
  | .nil => .nil
  | .node p d l r => .node (f p) d (l.map f) (r.map f)

theorem T.map_all (f : α → β) : ∀ t : T α, (t.map f).all = t.all.map f := by
  intro t
  induction t with
  | nil => rfl
  | node p d l r ihl ihr => simp only [T.map, T.all, ihl, ihr, List.map_append, List.map_cons]
end Lox.KB
namespace Go.Proofs.YtmeooadgdagiiaaGreat
open Go.RowKit Lox
set_option linter.unusedVariables false
attribute [local go_sem] run_store_flt run_store_fn
attribute [local go_sem ↓] Go.wp_at_zero Go.wp_at_succ

set_option maxHeartbeats 2000000 in
theorem kbox_ptr (A B : Option Addr) (n m c c' : Nat) (xs ys : List Nat) (w : World) (ha : Sl w A n 1 (flts xs)) (hb : Sl w B m 1 (flts ys)) (h : n = 0 ∨ (0 < n ∧ n ≤ 4 ∧ 0 < m ∧ m ≤ 4)) :
    Calls Tryz.prog 41 #[.slice A n c, .slice B m c'] w fun e w' => (∃ q bx, e = .returned (.pointer q) ∧ boxV bx = .pointer q) ∧ Mod (fun _ => False) w w' := by
  have H : Hid (Sl w A n 1 (flts xs) ∧ Sl w B m 1 (flts ys)) := ⟨ha, hb⟩
  clear ha hb
  rcases h with h | h
  · subst h
    go_enter Tryz.func41, Tryz.ntmps41
    go_wp2
    go_ret
    exact ⟨⟨_, none, rfl, rfl⟩, Mod.refl _ _⟩
  · have hn0 : ((n : Int) == 0) = false := by
      have : (n : Int) ≠ 0 := by omega
      simpa using this
    go_enter Tryz.func41, Tryz.ntmps41
    go_wp2_with (first
      | (go_at_call_of 18 (Value.slice A n c); refine (floats_any A n c xs _ H.out.1 (by omega) h.1).mono ?_; rintro _ w2 ⟨A2, c2, rfl, hs2, hm2, hb2⟩)
      | (go_at_call_of 18 (Value.slice B m c'); refine (floats_any B m c' ys _ (H.out.2.mod hm2) (by omega) h.2.2.1).mono ?_; rintro _ w3 ⟨A3, c3, rfl, hs3, hm3, hb3⟩))
    go_ret
    exact ⟨⟨_, some ⟨_, ⟨none, 0, []⟩, ⟨none, 0, []⟩⟩, rfl, rfl⟩, (hm2.trans hm3).alloc _⟩

/-- In the rows, from place i on, the tree is written down. -/
def Seg (rs : List KR) (mt : MT) (i : Nat) : Prop := ∀ j x, (mt.flat i)[j]? = some x → ∃ y, rs[i + j]? = some y ∧ y.plain = x

theorem seg_root {rs : List KR} {mt : MT} (h : rs.map KR.plain = mt.flat 0) : Seg rs mt 0 := by
  intro j x hx
  rw [← h, List.getElem?_map] at hx
  rw [Nat.zero_add]
  cases hr : rs[j]? with
  | none => rw [hr] at hx; simp at hx
  | some y => rw [hr] at hx; simp only [Option.map_some, Option.some.injEq] at hx; exact ⟨y, rfl, hx⟩

theorem Seg.left {rs : List KR} {g d i : Nat} {p : TP} {bx : Option BX} {l r : MT} (h : Seg rs (.node g p d bx l r) i) : Seg rs l (i + 1) := by
  intro j x hx
  have hj := (List.getElem?_eq_some_iff.1 hx).1
  have e : i + 1 + j = i + (j + 1) := by omega
  rw [e]
  refine h (j + 1) x ?_
  simp only [MT.flat, List.getElem?_cons_succ]
  rw [List.getElem?_append_left hj]
  exact hx

theorem Seg.right {rs : List KR} {g d i : Nat} {p : TP} {bx : Option BX} {l r : MT} (h : Seg rs (.node g p d bx l r) i) : Seg rs r (i + 1 + l.count) := by
  intro j x hx
  have e : i + 1 + l.count + j = i + (l.count + j + 1) := by omega
  rw [e]
  refine h (l.count + j + 1) x ?_
  simp only [MT.flat, List.getElem?_cons_succ]
  rw [List.getElem?_append_right (by rw [MT.flat_len]; omega), MT.flat_len, show l.count + j - l.count = j from by omega]
  exact hx

/-- The tree has been made. -/
def KnMade (dims : Nat) (mt : MT) (w : World) (e : Ending) (w' : World) : Prop :=
  ∃ (v : Value) (mt' : MT), e = .returned v ∧ mt'.In w' v ∧ mt'.T.map TP.xs = mt.T.map TP.xs ∧ (∀ g ∈ mt'.gs, w.heap.size ≤ g) ∧ (∀ p ∈ mt'.pts, p.Ok w' dims) ∧ Mod (fun _ => False) w w'

theorem MT.at_lt {mt : MT} {i : Nat} (h : ¬ (i : Int) < mt.at (i + 1)) : mt = .nil := by
  cases mt with
  | nil => rfl
  | node g p d bx l r => exact absurd (by show (i : Int) < ((i + 1 : Nat) : Int); omega) h

theorem MT.at_lt2 {mt : MT} {i k : Nat} (h : ¬ (i : Int) < mt.at (i + 1 + k)) : mt = .nil := by
  cases mt with
  | nil => rfl
  | node g p d bx l r => exact absurd (by show (i : Int) < ((i + 1 + k : Nat) : Int); omega) h

theorem noflt_node {w : World} {g pl : Nat} {p : TP} {ql qr : Option Addr} {bx : Option BX} (h : Blk w g 84 (nodeCells p pl (.pointer ql) (.pointer qr) bx)) : NoFlt w g := by
  intro o x hc
  rw [h.cell] at hc
  have hm := List.mem_of_getElem? hc
  unfold nodeCells boxV at hm
  cases bx <;> simp at hm

theorem TP.Ok.setNode {w : World} {dims g pl i : Nat} {p q : TP} {ql qr : Option Addr} {bx : Option BX} (hp : p.Ok w dims) (h : Blk w g 84 (nodeCells q pl (.pointer ql) (.pointer qr) bx)) (v : Value) : p.Ok (w.setCell ⟨g, i, none⟩ v) dims :=
  hp.noFlt (S := fun k => k = g) ((Mod.refl (fun k => k = g) w).set (p := ⟨g, i, none⟩) (.inl rfl) v) fun k _ e => by subst e; exact noflt_node h

theorem MT.In.setOff {w : World} {t : MT} {v : Value} {g i : Nat} (h : t.In w v) (hg : ∀ k ∈ t.gs, g < k) (u : Value) : t.In (w.setCell ⟨g, i, none⟩ u) v :=
  h.keep fun k hk _ => Below.heap_setCell _ _ _ _ (by show k ≠ g; have := hg k hk; omega)

set_option maxRecDepth 100000 in
set_option maxHeartbeats 8000000 in
theorem knode2_at (A : Option Addr) (c n dims B : Nat) (rs : List KR) (hdm : 0 < dims ∧ dims ≤ 4) (hn : n = rs.length) (hbx : ∀ x ∈ rs, x.mn.xs = [] ∨ (x.mn.xs.length = dims ∧ x.mx.xs.length = dims)) (mt : MT) :
    ∀ (i : Nat) (I : Int) (w : World), I = mt.at i → KS B w dims (.slice A n c) rs → Seg rs mt i → Calls Tryz.prog 34 #[.slice A n c, .int .i64 I] w (KnMade dims mt w) := by
  induction mt with
  | nil =>
    intro i I w hI hK hS
    have hI : I = -1 := hI
    subst hI
    clear hK hS
    go_enter Tryz.func34, Tryz.ntmps34
    go_wp2
    go_ret
    exact ⟨_, .nil, rfl, rfl, rfl, (fun g hg => by cases hg), (fun p hp => by cases hp), Mod.refl _ _⟩
  | node g0 p pl bx0 l r ihl ihr =>
    intro i I w hI hK hS
    have hI2 : I = (i : Int) := hI
    clear hI
    subst hI2
    obtain ⟨x, hxr, hxp⟩ := hS 0 _ rfl
    rw [Nat.add_zero] at hxr
    have hil := (List.getElem?_eq_some_iff.1 hxr).1
    obtain ⟨gb, cap, e5, -, -⟩ := hK.own.form (by omega)
    injection e5 with e5 e6 e7
    subst e5
    have hkc := fun (j : Nat) (hj : j < 6) => (hK.cell hn hxr (j := j) hj).1
    have hok := hK.ok x (List.mem_of_getElem? hxr)
    have hbxx := hbx x (List.mem_of_getElem? hxr)
    have hSl := hS.left
    have hSr := hS.right
    obtain ⟨⟨A0, cc0, xs⟩, plx, cl, fu, ⟨A1, k1, ys1⟩, ⟨A3, k3, ys3⟩⟩ := x
    simp only [KR.plain, PR.mk.injEq] at hxp
    obtain ⟨exs, epl, ecl, efu, -, -⟩ := hxp
    have hxl : xs.length = dims := hok.1.1.1
    obtain ⟨n1, en1⟩ : ∃ n1, n1 = ys1.length := ⟨_, rfl⟩
    obtain ⟨n3, en3⟩ : ∃ n3, n3 = ys3.length := ⟨_, rfl⟩
    have c0 : w.cell? ⟨gb, i * 6, none⟩ = some (.slice A0 dims cc0) := by
      have h := hkc 0 (by omega)
      rw [Nat.add_zero] at h
      rw [h, ← hxl]; rfl
    have c1 : w.cell? ⟨gb, i * 6 + 1, none⟩ = some (.int .i64 plx) := hkc 1 (by omega)
    have c2 : w.cell? ⟨gb, i * 6 + 2, none⟩ = some (.int .i64 cl) := hkc 2 (by omega)
    have c3 : w.cell? ⟨gb, i * 6 + 3, none⟩ = some (.int .i64 fu) := hkc 3 (by omega)
    have c4 : w.cell? ⟨gb, i * 6 + 4, none⟩ = some (.slice A1 n1 k1) := by rw [hkc 4 (by omega), en1]; rfl
    have c5 : w.cell? ⟨gb, i * 6 + 5, none⟩ = some (.slice A3 n3 k3) := by rw [hkc 5 (by omega), en3]; rfl
    have hs0 : Sl w A0 dims 1 (flts xs) := by have := hok.1.1.2; rw [← hxl]; exact this
    have sl0 : ∀ (A : Option Addr) (k : Nat) (ys : List Nat), TP.Own0 B w dims (.slice (some ⟨gb, 0, none⟩) n c) ⟨A, k, ys⟩ → Sl w A ys.length 1 (flts ys) := by
      intro A k ys h
      rcases h with h | h
      · cases h; exact ⟨rfl, fun h0 => absurd h0 (by decide)⟩
      · exact h.1.2
    have hs1 : Sl w A1 n1 1 (flts ys1) := by rw [en1]; exact sl0 _ _ _ hok.2.1
    have hs3 : Sl w A3 n3 1 (flts ys3) := by rw [en3]; exact sl0 _ _ _ hok.2.2
    have hPb : n1 = 0 ∨ (0 < n1 ∧ n1 ≤ 4 ∧ 0 < n3 ∧ n3 ≤ 4) := by
      rcases hbxx with h | h
      · left; rw [en1]; show ys1.length = 0; have h : ys1 = [] := h; rw [h]; rfl
      · right
        have h1 : ys1.length = dims := h.1
        have h3 : ys3.length = dims := h.2
        omega
    have hi : ¬ n ≤ i := by omega
    have hsz0 := hK.own
    have IHL := Lib.hid ihl
    have IHR := Lib.hid ihr
    have HN := Lib.hid hK
    have HS := Lib.hid (And.intro hs0 (And.intro hs1 hs3))
    have HPB := Lib.hid hPb
    have HE := Lib.hid (And.intro exs (And.intro epl (And.intro ecl (And.intro efu (And.intro hxl (And.intro hSl hSr))))))
    clear ihl ihr hK hS hxr hkc hok hbxx hSl hSr exs epl ecl efu hxl sl0 hs0 hs1 hs3 hPb en1 en3 hsz0 e6 e7 hil hn
    go_enter Tryz.func34, Tryz.ntmps34
    go_wp2_with fail
    go_cut [6] from 19 to 31 (fun q wx => ∃ g A2 c2 bq bx, q = .pointer (some ⟨g, 0, none⟩) ∧ boxV bx = .pointer bq ∧ w.heap.size + 1 ≤ g ∧ Blk wx g 84 (nodeCells ⟨A2, c2, xs⟩ plx (.pointer none) (.pointer none) bx) ∧ TP.Ok wx dims ⟨A2, c2, xs⟩ ∧ Mod (fun _ => False) (w.alloc (.cells #[.slice A0 dims cc0, .int .i64 plx, .int .i64 cl, .int .i64 fu, .slice A1 n1 k1, .slice A3 n3 k3] 91)) wx)
    case first =>
      clear c0 c1 c2 c3 c4 c5
      have B0 := (Blk.new' w #[.slice A0 dims cc0, .int .i64 plx, .int .i64 cl, .int .i64 fu, .slice A1 n1 k1, .slice A3 n3 k3] 91).drew
      have hb0 := B0.lt
      have K4 : ∀ w' : World, Blk w' w.heap.size 91 [.slice A0 dims cc0, .int .i64 plx, .int .i64 cl, .int .i64 fu, .slice A1 n1 k1, .slice A3 n3 k3] → (fun w' => w'.cell? ⟨w.heap.size, 0, none⟩ = some (.slice A0 dims cc0) ∧ w'.cell? ⟨w.heap.size, 1, none⟩ = some (.int .i64 plx) ∧ w'.cell? ⟨w.heap.size, 4, none⟩ = some (.slice A1 n1 k1) ∧ w'.cell? ⟨w.heap.size, 5, none⟩ = some (.slice A3 n3 k3)) w' := fun w' h => ⟨h.at (i := 0) rfl, h.at (i := 1) rfl, h.at (i := 4) rfl, h.at (i := 5) rfl⟩
      have HB0 := Lib.hid B0
      have HK4 := Lib.hid K4
      clear B0 K4
      go_region_held3 (fun w' => w'.cell? ⟨w.heap.size, 0, none⟩ = some (.slice A0 dims cc0) ∧ w'.cell? ⟨w.heap.size, 1, none⟩ = some (.int .i64 plx) ∧ w'.cell? ⟨w.heap.size, 4, none⟩ = some (.slice A1 n1 k1) ∧ w'.cell? ⟨w.heap.size, 5, none⟩ = some (.slice A3 n3 k3)) (first | exact HK4.out _ HB0.out | exact HK4.out _ (HB0.out.mod hma (fun h => h)) | exact HK4.out _ ((HB0.out.mod hma (fun h => h)).alloc _))
        (first
          | (go_at_call 18; first
             | (refine (floats_any A0 dims cc0 xs _ ((HS.out.1.alloc _).drew) (by omega) hdm.1).mono ?_; rintro _ w2 ⟨A2, cc2, rfl, hs2, hma, hb2⟩; have hsz := hma.size; rw [show ∀ x : World, x.drew.heap.size = x.heap.size from fun _ => rfl, World.size_alloc] at hsz)
             | (refine (floats_any A0 dims cc0 xs _ (((HS.out.1.alloc _).drew).mod hma) (by omega) hdm.1).mono ?_; rintro _ w2 ⟨A2, cc2, rfl, hs2, hmb, hb2⟩; have hmc := hma; clear hma; have hma := hmc.trans hmb; have hsz := hma.size; rw [show ∀ x : World, x.drew.heap.size = x.heap.size from fun _ => rfl, World.size_alloc] at hsz))
          | (go_at_call 41; first
             | (refine (kbox_ptr A1 A3 n1 n3 k1 k3 ys1 ys3 _ ((HS.out.2.1.alloc _).drew) ((HS.out.2.2.alloc _).drew) HPB.out).mono ?_; rintro _ w4 ⟨⟨bq, bx, rfl, hbq⟩, hma⟩)
             | (refine (kbox_ptr A1 A3 n1 n3 k1 k3 ys1 ys3 _ (((HS.out.2.1.alloc _).drew).mod hma) (((HS.out.2.2.alloc _).drew).mod hma) HPB.out).mono ?_; rintro _ w4 ⟨⟨bq, bx, rfl, hbq⟩, hmb⟩; have hsx := hs2; clear hs2; have hs2 := hsx.mod hmb; have hmc := hma; clear hma; have hma := hmc.trans hmb; have hsz := hma.size; rw [show ∀ x : World, x.drew.heap.size = x.heap.size from fun _ => rfl, World.size_alloc] at hsz)))
      all_goals
        go_wp2_with fail
        go_meet
        exact ⟨_, A2, cc2, bq, bx, rfl, hbq, (by omega), (by have e : nodeCells ⟨A2, cc2, xs⟩ plx (.pointer none) (.pointer none) bx = [.iface 50 (.slice A2 dims cc2), .int .i64 plx, .pointer none, .pointer none, .pointer bq] := (by unfold nodeCells; rw [hbq, ← HE.out.2.2.2.2.1]; rfl); rw [e]; exact Blk.new' _ _ _), ⟨HE.out.2.2.2.2.1, by show Sl _ A2 xs.length 1 _; rw [HE.out.2.2.2.2.1]; exact hs2.alloc _⟩, (((Mod.refl _ _).drew).trans hma).alloc _⟩
    case rest =>
      obtain ⟨g, A2, C2, bq, bx, rfl, hbq, hg, hb, hok2, hm⟩ := hcut
      have hB0 : Blk wc w.heap.size 91 [.slice A0 dims cc0, .int .i64 plx, .int .i64 cl, .int .i64 fu, .slice A1 n1 k1, .slice A3 n3 k3] := (Blk.new' w #[.slice A0 dims cc0, .int .i64 plx, .int .i64 cl, .int .i64 fu, .slice A1 n1 k1, .slice A3 n3 k3] 91).mod hm (fun h => h)
      have hmw : Mod (fun _ => False) w wc := ((Mod.refl _ _).alloc _).trans hm
      have hgl := hb.lt
      have j2 := hB0.at (i := 2) rfl
      have j3 := hB0.at (i := 3) rfl
      have K : Hid (Blk wc g 84 (nodeCells ⟨A2, C2, xs⟩ plx (.pointer none) (.pointer none) bx) ∧ TP.Ok wc dims ⟨A2, C2, xs⟩ ∧ Blk wc w.heap.size 91 [.slice A0 dims cc0, .int .i64 plx, .int .i64 cl, .int .i64 fu, .slice A1 n1 k1, .slice A3 n3 k3] ∧ Mod (fun _ => False) w wc ∧ boxV bx = .pointer bq) := ⟨hb, hok2, hB0, hmw, hbq⟩
      clear hm hb hok2 hB0 hmw hbq c0 c1 c2 c3 c4 c5
      go_upto_if 35 with fail
      go_cut [] from 35 to 42 (fun wx => ∃ (lv : Option Addr) (t1 : MT), Blk wx g 84 (nodeCells ⟨A2, C2, xs⟩ plx (.pointer lv) (.pointer none) bx) ∧ t1.In wx (.pointer lv) ∧ (∀ k ∈ t1.gs, g < k) ∧ (∀ p ∈ t1.pts, p.Ok wx dims) ∧ Blk wx w.heap.size 91 [.slice A0 dims cc0, .int .i64 plx, .int .i64 cl, .int .i64 fu, .slice A1 n1 k1, .slice A3 n3 k3] ∧ TP.Ok wx dims ⟨A2, C2, xs⟩ ∧ Mod (fun _ => False) w wx ∧ t1.T.map TP.xs = l.T.map TP.xs)
      case first =>
        by_cases h1 : (i : Int) < cl
        · go_wp2_with (go_at_call 34; refine (IHL.out (i + 1) cl wc HE.out.2.2.1 (HN.out.mod K.out.2.2.2.1) HE.out.2.2.2.2.2.1).mono ?_; rintro _ w3 ⟨lv, t1, rfl, ht1, hx1, hg1, hp1, hm1⟩; obtain ⟨q1, rfl⟩ := ht1.ptr; have y2 : w3.cell? ⟨g, 2, none⟩ = some (.pointer none) := ((K.out.1.mod hm1 (fun h => h)).at (i := 2) rfl); have z2 : w3.frozen? ⟨g, 2, none⟩ = false := ((K.out.1.mod hm1 (fun h => h)).frozen 2); have HT := Lib.hid (And.intro ht1 (And.intro hx1 (And.intro hg1 (And.intro hp1 hm1)))); clear ht1 hx1 hg1 hp1 hm1)
          go_meet
          obtain ⟨ht1, hx1, hg1, hp1, hm1⟩ := HT.out
          have b3 := K.out.1.mod hm1 (fun h => h)
          exact ⟨q1, t1, b3.set 2 (.pointer q1), ht1.setOff (fun k hk => by have := hg1 k hk; omega) _, (fun k hk => by have := hg1 k hk; omega), (fun p hp => (hp1 p hp).setNode b3 _), (K.out.2.2.1.mod hm1 (fun h => h)).other _ (by show g ≠ w.heap.size; omega), (K.out.2.1.mod0 hm1).setNode b3 _, (K.out.2.2.2.1.trans hm1).set (.inr (by show w.heap.size ≤ g; omega)) _, hx1⟩
        · have hnil : l = .nil := MT.at_lt (by rw [← HE.out.2.2.1]; exact h1)
          have HNI := Lib.hid hnil
          clear hnil
          go_wp2_with fail
          go_meet
          exact ⟨none, .nil, K.out.1, rfl, (fun k hk => by cases hk), (fun p hp => by cases hp), K.out.2.2.1, K.out.2.1, K.out.2.2.2.1, by rw [HNI.out]⟩
      case rest =>
        obtain ⟨lv, t1, hb1, ht1, hg1, hp1, hB1, hok1, hm1, hx1⟩ := hcut
        have q1 := hB1.at (i := 3) rfl
        have hgl2 := hb1.lt
        have hsz := hm1.size
        have K2 : Hid (Blk wc g 84 (nodeCells ⟨A2, C2, xs⟩ plx (.pointer lv) (.pointer none) bx) ∧ t1.In wc (.pointer lv) ∧ (∀ k ∈ t1.gs, g < k) ∧ (∀ p ∈ t1.pts, p.Ok wc dims) ∧ TP.Ok wc dims ⟨A2, C2, xs⟩ ∧ Mod (fun _ => False) w wc ∧ t1.T.map TP.xs = l.T.map TP.xs) := ⟨hb1, ht1, hg1, hp1, hok1, hm1, hx1⟩
        clear hb1 ht1 hg1 hp1 hB1 hok1 hm1 hx1 j2 j3
        by_cases h2 : (i : Int) < fu
        · go_wp2_with (go_at_call 34; refine (IHR.out (i + 1 + l.count) fu wc HE.out.2.2.2.1 (HN.out.mod K2.out.2.2.2.2.2.1) HE.out.2.2.2.2.2.2).mono ?_; rintro _ w3 ⟨rv, t2, rfl, ht2, hx2, hg2, hp2, hm2⟩; obtain ⟨q2, rfl⟩ := ht2.ptr; have y3 : w3.cell? ⟨g, 3, none⟩ = some (.pointer none) := ((K2.out.1.mod hm2 (fun h => h)).at (i := 3) rfl); have z3 : w3.frozen? ⟨g, 3, none⟩ = false := ((K2.out.1.mod hm2 (fun h => h)).frozen 3); have HT := Lib.hid (And.intro ht2 (And.intro hx2 (And.intro hg2 (And.intro hp2 hm2)))); clear ht2 hx2 hg2 hp2 hm2)
          go_ret
          obtain ⟨ht2, hx2, hg2, hp2, hm2⟩ := HT.out
          obtain ⟨e1, e2, e3, e4, e5, e6, e7⟩ := K2.out
          have b3 := e1.mod hm2 (fun h => h)
          refine ⟨_, .node g ⟨A2, C2, xs⟩ plx bx t1 t2, rfl, ⟨rfl, .pointer lv, .pointer q2, b3.set 3 (.pointer q2), (e2.mod hm2 (fun _ _ h => h)).setOff e3 _, ht2.setOff (fun k hk => by have := hg2 k hk; omega) _⟩, ?_, ?_, ?_, (e6.trans hm2).set (.inr (by show w.heap.size ≤ g; omega)) _⟩
          · show KB.T.node xs plx (t1.T.map TP.xs) (t2.T.map TP.xs) = KB.T.node p.xs pl (l.T.map TP.xs) (r.T.map TP.xs)
            rw [e7, hx2, HE.out.1, HE.out.2.1]
          · intro k hk
            rcases List.mem_cons.1 hk with rfl | hk
            · omega
            · rcases List.mem_append.1 hk with hk | hk
              · have := e3 k hk; omega
              · have := hg2 k hk; omega
          · intro p' hp'
            rcases List.mem_append.1 hp' with hp' | hp'
            · exact ((e4 p' hp').mod0 hm2).setNode b3 _
            · rcases List.mem_cons.1 hp' with rfl | hp'
              · exact (e5.mod0 hm2).setNode b3 _
              · exact (hp2 p' hp').setNode b3 _
        · have hnil : r = .nil := MT.at_lt2 (by rw [← HE.out.2.2.2.1]; exact h2)
          have HNI := Lib.hid hnil
          clear hnil
          go_wp2_with fail
          go_ret
          obtain ⟨e1, e2, e3, e4, e5, e6, e7⟩ := K2.out
          refine ⟨_, .node g ⟨A2, C2, xs⟩ plx bx t1 .nil, rfl, ⟨rfl, .pointer lv, .pointer none, e1, e2, rfl⟩, ?_, ?_, ?_, e6⟩
          · show KB.T.node xs plx (t1.T.map TP.xs) .nil = KB.T.node p.xs pl (l.T.map TP.xs) (r.T.map TP.xs)
            rw [e7, HE.out.1, HE.out.2.1, HNI.out]; rfl
          · intro k hk
            rcases List.mem_cons.1 hk with rfl | hk
            · omega
            · rcases List.mem_append.1 hk with hk | hk
              · have := e3 k hk; omega
              · cases hk
          · intro p' hp'
            rcases List.mem_append.1 hp' with hp' | hp'
            · exact e4 p' hp'
            · rcases List.mem_cons.1 hp' with rfl | hp'
              · exact e5
              · cases hp'
end Go.Proofs.YtmeooadgdagiiaaGreat
