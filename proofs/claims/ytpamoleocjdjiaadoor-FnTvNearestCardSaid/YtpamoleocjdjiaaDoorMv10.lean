/- Steps of a proof, one behind another: The walk that writes a vantage-point tree down as rows of nodes. The walk of VBuild. The walk of the reference's list of the points from a node on. The walks of the reference's walk through a tree. The memory of the reference's walk: its variables, its two rows, and what the two appends of a step do to them. Conditions: as each theorem says. -/
import Derived.Test.YtpamoleocjdjiaaDoorMv9
import Derived.Deep.RegionLaw
import Derived.Deep.DrawnRows
import Derived.Deep.DeepCutAuto
import Derived.IntWalk
import Derived.Deep.RegionHeld3
import Derived.Deep.AppendLies
import Derived.Test.YtpamoleocjdjiaaDoorRows

namespace Go.Proofs.YtpamoleocjdjiaaDoor
open Go.RowKit Lox
set_option linter.unusedVariables false
attribute [local go_sem] run_store_flt run_store_fn
attribute [local go_sem ↓] Go.wp_at_zero Go.wp_at_succ

theorem info_vnode : (Tryd.prog.info? 37).map (fun i => (i.zero, i.size, i.bytes)) = some (some (.agg #[.slice none 0 0, .float .f64 0, .int .i64 0, .int .i64 0]), 4, 48) := by kernel_rfl

/-- What vnodes tells. -/
def VnTold (B dims : Nat) (vt : VT) (ov : Value) (rs : List VR) (w : World) (e : Ending) (w' : World) : Prop :=
  ∃ (v' : Value) (rs' : List VR), e = .returned (.tuple #[v', .int .i64 (vt.at rs.length)]) ∧ VS B w' dims v' (rs ++ rs') ∧ rs'.map VR.plain = vt.flat rs.length ∧ Mod (fun k => ov.ownBlock = some k) w w' ∧ (v'.ownBlock = ov.ownBlock ∨ ∃ g, v'.ownBlock = some g ∧ w.heap.size ≤ g) ∧ (∃ A c, v' = .slice A (rs ++ rs').length c)

theorem vn_nil {B dims : Nat} {v : Value} {rs : List VR} {w : World} (h : VS B w dims v rs) : VnTold B dims .nil v rs w (.returned (.tuple #[v, .int .i64 (-1)])) w :=
  ⟨v, [], rfl, by rw [List.append_nil]; exact h, rfl, Mod.refl _ _, .inl rfl, by
    obtain ⟨A, c, e⟩ : ∃ A c, v = .slice A rs.length c := by
      rcases h.own.2 with ⟨rfl, h0⟩ | ⟨g, cap, cur, e1, _⟩
      · exact ⟨none, 0, by rw [h0]⟩
      · exact ⟨_, _, e1⟩
    rw [List.append_nil]; exact ⟨A, c, e⟩⟩

/-- A tree that may be written down: its points are there, apart from the row. -/
structure VTr (w : World) (dims : Nat) (vt : VT) (nv ov : Value) : Prop where
  tin : vt.In w nv
  pts : ∀ p ∈ vt.pts, p.Ok w dims ∧ ∀ b o, p.A = some ⟨b, o, none⟩ → ov.ownBlock ≠ some b

/-- The own block of v' is that of v, or a newer one. -/
def Newer (v v' : Value) (H : Nat) : Prop := v'.ownBlock = v.ownBlock ∨ ∃ g, v'.ownBlock = some g ∧ H ≤ g

theorem VT.In.node {w : World} : ∀ {t : VT} {v : Value}, t.In w v → ∀ k ∈ t.gs, ∃ ys, Blk w k 92 ys := by
  intro t
  induction t with
  | nil => intro v h k hk; cases hk
  | node g p d l r ihl ihr =>
    intro v h k hk
    obtain ⟨e, lv, rv, hb, hl, hr⟩ := h
    rcases List.mem_cons.1 hk with rfl | hk
    · exact ⟨_, hb⟩
    · rcases List.mem_append.1 hk with hk | hk
      · exact ihl hl k hk
      · exact ihr hr k hk

theorem VTr.keep {w W : World} {dims B n : Nat} {t : VT} {nv ov v' : Value} {xs : List Value} (hd : 0 < dims) (h : VTr w dims t nv ov) (ho : w.ownsRow B 37 4 ov n xs) (hk : ∀ k, k < w.heap.size → ov.ownBlock ≠ some k → W.heap[k]? = w.heap[k]?) (hv : Newer ov v' w.heap.size) : VTr W dims t nv v' := by
  refine ⟨h.tin.keep fun k hkg hkl => hk k hkl ?_, fun p hp => ⟨?_, fun b o e e2 => ?_⟩⟩
  · obtain ⟨ys, hb⟩ := h.tin.node k hkg
    exact owns_ne ho hb (by decide)
  · obtain ⟨h1, h2⟩ := h.pts p hp
    refine ⟨h1.1, h1.2.1, fun h0 => ?_⟩
    obtain ⟨b, o, e, hc⟩ := h1.2.2 h0
    exact ⟨b, o, e, fun j u hu => (World.cell?_of_block (w := w) (hk b (lt_of_cell (hc j u hu)) (h2 b o e))).trans (hc j u hu)⟩
  · obtain ⟨h1, h2⟩ := h.pts p hp
    have hlt : b < w.heap.size := (h1.2.far (by omega)) (by rw [h1.1]; exact hd) b o e
    rcases hv with h3 | ⟨g, h3, h4⟩
    · rw [h3] at e2; exact h2 b o e e2
    · rw [h3] at e2
      injection e2 with e2
      omega

theorem Newer.of_at {v : Value} {g H n cap : Nat} (h : v.ownBlock = some g ∨ g = H + 1) : Newer v (.slice (some ⟨g, 0, none⟩) n cap) H := by
  rcases h with h | h
  · exact .inl h.symm
  · exact .inr ⟨g, rfl, by omega⟩

theorem Newer.trans {a b c : Value} {H K : Nat} (h : Newer a b H) (k : Newer b c K) (hHK : H ≤ K) : Newer a c H := by
  rcases k with k | ⟨g, k1, k2⟩
  · rcases h with h | ⟨g, h1, h2⟩
    · exact .inl (k.trans h)
    · exact .inr ⟨g, k.trans h1, h2⟩
  · exact .inr ⟨g, k1, by omega⟩

/-- The blocks that a row's writing may turn, seen from the beginning. -/
theorem Mod.newer {a b c : World} {v v' : Value} (h : Mod (fun k => v.ownBlock = some k) a b) (k : Mod (fun k => v'.ownBlock = some k) b c) (hn : Newer v v' a.heap.size) : Mod (fun k => v.ownBlock = some k) a c :=
  h.trans' k fun i hi e => by
    rcases hn with hn | ⟨g, h1, h2⟩
    · rw [← hn]; exact e
    · rw [h1] at e
      injection e with e
      omega

theorem set_mid {α : Type} (A B : List α) (x y : α) : (A ++ x :: B).set A.length y = A ++ y :: B := by
  rw [List.set_append_right _ _ (Nat.le_refl _), Nat.sub_self]; rfl

theorem vn_end {B dims m g g2 N c2 pl : Nat} {p : TP} {l r : VT} {ov v1 v2 : Value} {rs rs1 rs2 : List VR} {x : VR} {w w3 w4 w5 : World} (hm : m = rs.length) (hx : x.plain = ⟨p.xs, pl, 0, 0⟩)
    (hB : B ≤ w.heap.size) (h3 : Mod (fun k => ov.ownBlock = some k) w w3) (n3 : Newer ov v1 w.heap.size)
    (h4 : Mod (fun k => v1.ownBlock = some k) w3 w4) (n4 : Newer v1 v2 w3.heap.size) (h5 : Mod (fun k => v2.ownBlock = some k) w4 w5) (n5 : Newer v2 (.slice (some ⟨g2, 0, none⟩) N c2) w4.heap.size)
    (hp1 : rs1.map VR.plain = l.flat (m + 1)) (hp2 : rs2.map VR.plain = r.flat (m + 1 + l.count)) (hK : VS B w5 dims (.slice (some ⟨g2, 0, none⟩) N c2) (((rs ++ [x]) ++ rs1) ++ rs2)) (hN : N = (((rs ++ [x]) ++ rs1) ++ rs2).length) :
    VnTold B dims (.node g p pl l r) ov rs w (.returned (.tuple #[.slice (some ⟨g2, 0, none⟩) N c2, .int .i64 m]))
      ((w5.setCell ⟨g2, m * 4 + 2, none⟩ (.int .i64 (l.at (m + 1)))).setCell ⟨g2, m * 4 + 3, none⟩ (.int .i64 (r.at (m + 1 + l.count)))) := by
  have e0 : (((rs ++ [x]) ++ rs1) ++ rs2) = rs ++ x :: (rs1 ++ rs2) := by simp
  have hget : (((rs ++ [x]) ++ rs1) ++ rs2)[m]? = some x := by rw [e0, hm]; simp
  have hs := hK.sides hN hget (l.at (m + 1)) (r.at (m + 1 + l.count))
  rw [e0, hm, set_mid] at hs
  have s3 := h3.size
  have s4 := h4.size
  have s5 := h5.size
  have n1 : Newer ov v2 w.heap.size := n3.trans n4 s3
  have n2 : Newer ov (.slice (some ⟨g2, 0, none⟩) N c2) w.heap.size := n1.trans n5 (by omega)
  refine ⟨_, _, by rw [hm]; rfl, by rw [hm]; exact hs, ?_, ?_, ?_, ⟨some ⟨g2, 0, none⟩, c2, by rw [hN]; simp⟩⟩
  · obtain ⟨xp, xpl, xl, xr⟩ := x
    simp only [VR.plain, PV.mk.injEq] at hx
    obtain ⟨a1, a2, a3, a4⟩ := hx
    simp only [List.map_cons, List.map_append, hp1, hp2, VT.flat, VR.plain, ← hm, a1, a2]
  · have h35 : Mod (fun k => ov.ownBlock = some k) w w5 := Mod.newer (Mod.newer h3 h4 n3) h5 n1
    have hg2 : ov.ownBlock = some g2 ∨ w.heap.size ≤ g2 := by
      rcases n2 with n2 | ⟨g', n2, n2'⟩
      · exact .inl n2.symm
      · have e : some g2 = some g' := n2
        injection e with e
        exact .inr (by omega)
    exact (h35.set (p := ⟨g2, m * 4 + 2, none⟩) hg2 _).set (p := ⟨g2, m * 4 + 3, none⟩) hg2 _
  · exact n2

/-- What stands behind the append of a node. -/
structure VnAt (B dims g pl : Nat) (p : TP) (l r : VT) (ql qr : Option Addr) (v : Value) (rs : List VR) (W : World) : Prop where
  ks : VS B W dims v rs
  blk : Blk W g 92 (vnodeCells p pl (.pointer ql) (.pointer qr))
  tl : VTr W dims l (.pointer ql) v
  tr : VTr W dims r (.pointer qr) v

theorem vn_push {B dims m g gg cap pl : Nat} {p : TP} {l r : VT} {ql qr A : Option Addr} {c : Nat} {rs : List VR} {x : VR} {w wc w3 : World} {o : Obj} (hd : 0 < dims) (hm : m = rs.length) (hmw : Mod (fun _ => False) w wc)
    (hK : VS B wc dims (.slice A m c) rs) (hx : x.p.Own B wc dims (.slice A m c)) (hb : Blk wc g 92 (vnodeCells p pl (.pointer ql) (.pointer qr)))
    (hl : VTr w dims l (.pointer ql) (.slice A m c)) (hr : VTr w dims r (.pointer qr) (.slice A m c)) (ho : w.ownsRow B 37 4 (.slice A m c) rs.length (rs.flatMap VR.cells)) (hne : (Value.slice A m c).ownBlock ≠ some g)
    (hown : w3.ownsRow B 37 4 (.slice (some ⟨gg, 0, none⟩) (m + 1) cap) (m + 1) (rs.flatMap VR.cells ++ x.cells)) (hgrow : (wc.alloc o).grownBy w3 (Value.slice A m c).ownBlock) (hat : (Value.slice A m c).ownBlock = some gg ∨ gg = wc.heap.size + 1) :
    VnAt B dims g pl p l r ql qr (.slice (some ⟨gg, 0, none⟩) (m + 1) cap) (rs ++ [x]) w3 ∧ Newer (.slice A m c) (.slice (some ⟨gg, 0, none⟩) (m + 1) cap) w.heap.size ∧ Mod (fun k => (Value.slice A m c).ownBlock = some k) w w3 := by
  have hz := hmw.size
  have hk : ∀ k, k < w.heap.size → (Value.slice A m c).ownBlock ≠ some k → w3.heap[k]? = w.heap[k]? := fun k hk hn =>
    (hgrow.block k (by rw [World.size_alloc]; omega) (Ne.symm hn)).trans ((Below.heap_alloc _ _ _ (by omega)).trans (hmw.block k hk (fun h => h)))
  have hN : Newer (.slice A m c) (.slice (some ⟨gg, 0, none⟩) (m + 1) cap) w.heap.size := by
    rcases hat with h | h
    · exact .inl h.symm
    · exact .inr ⟨gg, rfl, by omega⟩
  refine ⟨⟨?_, (hb.alloc o).grown hgrow (Ne.symm hne), hl.keep hd ho hk hN, hr.keep hd ho hk hN⟩, hN, ?_⟩
  · subst hm
    exact hK.push hd hx hown hgrow hat
  · exact ((hmw.mono (fun _ _ h => h.elim) : Mod (fun k => (Value.slice A m c).ownBlock = some k) w wc).alloc o).grown hgrow (fun k e _ => e)

theorem VnAt.step {B dims g pl : Nat} {p : TP} {l r : VT} {ql qr : Option Addr} {v v' : Value} {rs rs' : List VR} {W W' : World} (hd : 0 < dims) (h : VnAt B dims g pl p l r ql qr v rs W) (hK : VS B W' dims v' rs') (hm : Mod (fun k => v.ownBlock = some k) W W') (hn : Newer v v' W.heap.size) : VnAt B dims g pl p l r ql qr v' rs' W' := by
  have hk : ∀ k, k < W.heap.size → v.ownBlock ≠ some k → W'.heap[k]? = W.heap[k]? := fun k hk hn => hm.block k hk hn
  exact ⟨hK, h.blk.mod hm (owns_ne h.ks.own h.blk (by decide)), h.tl.keep hd h.ks.own hk hn, h.tr.keep hd h.ks.own hk hn⟩

theorem vn_len2 {m : Nat} {l : VT} {a rs1 : List VR} (h : a.length = m + 1) (h1 : rs1.map VR.plain = l.flat (m + 1)) : (a ++ rs1).length = m + 1 + l.count := by
  have := congrArg List.length h1
  rw [List.length_map, VT.flat_len] at this
  rw [List.length_append, h, this]

theorem vn_pos {n : Nat} {rs rs1 rs2 : List VR} {x : VR} (h : n = (((rs ++ [x]) ++ rs1) ++ rs2).length) : 0 < n := by
  rw [h]; simp only [List.length_append, List.length_singleton]; omega

theorem vn_lt {n m : Nat} {rs rs1 rs2 : List VR} {x : VR} (hm : m = rs.length) (h : n = (((rs ++ [x]) ++ rs1) ++ rs2).length) : m < n := by
  rw [h]; simp only [List.length_append, List.length_singleton]; omega

theorem vn_get {m : Nat} {rs : List VR} (rs1 rs2 : List VR) (x : VR) (hm : m = rs.length) : (((rs ++ [x]) ++ rs1) ++ rs2)[m]? = some x := by
  have e0 : (((rs ++ [x]) ++ rs1) ++ rs2) = rs ++ x :: (rs1 ++ rs2) := by simp
  rw [e0, hm]
  simp

/-- What stands ahead of a node's append. -/
structure VnA (B dims m c g pl : Nat) (p : TP) (l r : VT) (ql qr A : Option Addr) (rs : List VR) (w : World) : Prop where
  ks : VS B w dims (.slice A m c) rs
  len : m = rs.length
  blk : Blk w g 92 (vnodeCells p pl (.pointer ql) (.pointer qr))
  tl : VTr w dims l (.pointer ql) (.slice A m c)
  tr : VTr w dims r (.pointer qr) (.slice A m c)
  pt : p.Ok w dims ∧ ∀ b o, p.A = some ⟨b, o, none⟩ → (Value.slice A m c).ownBlock ≠ some b
  low : B ≤ w.heap.size

theorem VnA.push {B dims m c g pl : Nat} {p : TP} {l r : VT} {ql qr A : Option Addr} {rs : List VR} {w w5 w6 : World} {A2 : Option Addr} {c2 gg cap : Nat} {o : Obj} (h : VnA B dims m c g pl p l r ql qr A rs w) (hd : 0 < dims) (hm : Mod (fun _ => False) w w5) (hs : Sl w5 A2 dims 1 (flts p.xs)) (hA : ∀ b o, A2 = some ⟨b, o, none⟩ → w.heap.size ≤ b)
    (hown : w6.ownsRow B 37 4 (.slice (some ⟨gg, 0, none⟩) (m + 1) cap) (m + 1) (rs.flatMap VR.cells ++ [.slice A2 dims c2, .float .f64 pl, .int .i64 0, .int .i64 0])) (hgrow : (w5.alloc o).grownBy w6 (Value.slice A m c).ownBlock) (hat : (Value.slice A m c).ownBlock = some gg ∨ gg = w5.heap.size + 1) :
    VnAt B dims g pl p l r ql qr (.slice (some ⟨gg, 0, none⟩) (m + 1) cap) (rs ++ [⟨⟨A2, c2, p.xs⟩, pl, 0, 0⟩]) w6 ∧ Newer (.slice A m c) (.slice (some ⟨gg, 0, none⟩) (m + 1) cap) w.heap.size ∧ Mod (fun k => (Value.slice A m c).ownBlock = some k) w w6 := by
  have hz := hm.size
  have hcells : (⟨⟨A2, c2, p.xs⟩, pl, 0, 0⟩ : VR).cells = [.slice A2 dims c2, .float .f64 pl, .int .i64 0, .int .i64 0] := by show [Value.slice A2 p.xs.length c2, _, _, _] = _; rw [h.pt.1.1]
  have hown0 : w.ownsRow B 37 4 (.slice A m c) rs.length (rs.flatMap VR.cells) := h.ks.own
  have hxo : (⟨A2, c2, p.xs⟩ : TP).Own B w5 dims (.slice A m c) := by
    refine ⟨⟨h.pt.1.1, by show Sl w5 A2 p.xs.length 1 _; rw [h.pt.1.1]; exact hs⟩, fun b o e => ⟨by have := hA b o e; have := h.low; omega, fun e2 => ?_⟩⟩
    have h1 := (own_block hown0 e2).2
    have h2 := hA b o e
    omega
  exact vn_push (x := ⟨⟨A2, c2, p.xs⟩, pl, 0, 0⟩) hd h.len hm (h.ks.mod hm) hxo (h.blk.mod hm (fun h => h)) h.tl h.tr hown0 (owns_ne hown0 h.blk (by decide)) (by rw [hcells]; exact hown) hgrow hat

set_option maxRecDepth 100000 in
set_option maxHeartbeats 8000000 in
theorem vnodes_at (B dims : Nat) (hdm : 0 < dims ∧ dims ≤ 1099511627776) (vt : VT) :
    ∀ (w : World) (nv ov : Value) (rs : List VR), VTr w dims vt nv ov → VS B w dims ov rs → B ≤ w.heap.size → rs.length + vt.count ≤ 4294967296 →
      Calls Tryd.prog 25 #[nv, ov] w (VnTold B dims vt ov rs w) := by
  have hta := run_assert_vp
  induction vt with
  | nil =>
    intro w nv ov rs hT hK hB hn
    have hv : nv = .pointer none := hT.tin
    subst hv
    have HK := Lib.hid hK
    obtain ⟨A, c, e⟩ : ∃ A c, ov = .slice A rs.length c := by
      rcases hK.own.2 with ⟨rfl, h0⟩ | ⟨g, cap, cur, e1, _⟩
      · exact ⟨none, 0, by rw [h0]⟩
      · exact ⟨_, _, e1⟩
    subst e
    clear hT hK
    go_enter Tryd.func25, Tryd.ntmps25
    go_wp2
    go_ret2
    exact vn_nil HK.out
  | node g p pl l r ihl ihr =>
    intro w nv ov rs hT hK hB hn
    obtain ⟨⟨hv, lv, rv, hb, hl, hr⟩, hP⟩ := hT
    subst hv
    obtain ⟨ql, rfl⟩ := hl.ptr
    obtain ⟨qr, rfl⟩ := hr.ptr
    obtain ⟨A, c, e⟩ : ∃ A c, ov = .slice A rs.length c := by
      rcases hK.own.2 with ⟨rfl, h0⟩ | ⟨g, cap, cur, e1, _⟩
      · exact ⟨none, 0, by rw [h0]⟩
      · exact ⟨_, _, e1⟩
    subst e
    have hpp := hP p (by simp [VT.pts])
    have c0 : w.cell? ⟨g, 0, none⟩ = some (.iface 78 (.slice p.A dims p.c)) := by rw [← hpp.1.1]; exact hb.at (i := 0) rfl
    have c1 : w.cell? ⟨g, 1, none⟩ = some (.float .f64 pl) := hb.at (i := 1) rfl
    have hgl := hb.lt
    have hsl : Sl w p.A dims 1 (flts p.xs) := by have := hpp.1.2; rw [hpp.1.1] at this; exact this
    obtain ⟨m, hm⟩ : ∃ m, m = rs.length := ⟨_, rfl⟩
    have hmb : m ≤ 4294967296 := by simp only [VT.count] at hn; omega
    have hA : VnA B dims m c g pl p l r ql qr A rs w := by
      rw [← hm] at hK
      rw [← hm] at hP hpp
      exact ⟨hK, hm, hb, ⟨hl, fun q hq => hP q (by simp [VT.pts, hq])⟩, ⟨hr, fun q hq => hP q (by simp [VT.pts, hq])⟩, hpp, hB⟩
    rw [← hm]
    have HA := Lib.hid hA
    have H1 := Lib.hid (And.intro hsl hn)
    have HIL := Lib.hid ihl
    have HIR := Lib.hid ihr
    obtain ⟨i0, hi0, hz0, hz1, hz2⟩ := info_parts info_vnode
    have HI := Lib.hid (And.intro hi0 (And.intro hz0 (And.intro hz1 hz2)))
    have tok2 : True := trivial
    have hw1 : IntKind.i64.wrap ((m : Int) + 1) = (m : Int) + 1 := IntWalk.i64_in _ (by omega)
    clear hi0 hz0 hz1 hz2 hsl hpp hn hB hb hl hr hP hK ihl ihr hA hm
    go_enter Tryd.func25, Tryd.ntmps25
    go_wp2_with fail
    go_cut [1] from 14 to 28 (fun v wx => ∃ (gg cap : Nat) (A2 : Option Addr) (c2 : Nat), v = .slice (some ⟨gg, 0, none⟩) (m + 1) cap ∧ Hid (VnAt B dims g pl p l r ql qr (.slice (some ⟨gg, 0, none⟩) (m + 1) cap) (rs ++ [⟨⟨A2, c2, p.xs⟩, pl, 0, 0⟩]) wx ∧ Newer (.slice A m c) (.slice (some ⟨gg, 0, none⟩) (m + 1) cap) w.heap.size ∧ Mod (fun k => (Value.slice A m c).ownBlock = some k) w wx))
    case first =>
      have HC1 := Lib.hid c1
      go_region_law
        (first
          | (go_simp; go_at_call 37; (refine (floats_any p.A dims p.c p.xs _ (H1.out.1.drew) hdm.2 hdm.1).mono ?_; rintro _ w5 ⟨A2, c2, rfl, hs2, hm2, hb2⟩; have hw5 : Mod (fun _ => False) w w5 := ((Mod.refl _ _).drew.trans hm2); have hz := hw5.size; have ce5 : w5.cell? ⟨g, 1, none⟩ = some (.float .f64 pl) := (hw5.cell (by exact hgl) (fun h => h)).trans HC1.out))
          | ((refine step_append_lies _ (by rfl) _ _ _ (by rfl) B 37 i0 _ 4 48 Tryd.underlying28 HI.out.1 HI.out.2.1 HI.out.2.2.1 HI.out.2.2.2 rfl (by omega) (.slice A m c) m (rs.flatMap VR.cells) (by rfl) (by have h0 := (HA.out.ks.own.kept hw5.grownBy (Decidable.em _)).alloc (.cells #[.slice A2 dims c2, .float .f64 pl, .int .i64 0, .int .i64 0] 37); rw [← HA.out.len] at h0; exact h0) ⟨w5.heap.size, 0, none⟩ 1 1 [.slice A2 dims c2, .float .f64 pl, .int .i64 0, .int .i64 0] (by rfl) (by rfl) (World.news_of_block (cs := #[.slice A2 dims c2, .float .f64 pl, .int .i64 0, .int .i64 0]) (t := 37) (fr := (0, 0)) (heap_alloc_new w5 _)) (by simp [Value.oneCell']) (by omega) (by unfold maxLen; omega) (by omega) (by have := HA.out.low; simp; omega) (w5.heap.size + 1) (by simp) ?_; intro gg gcap w6 hown6 hgrow hat hlt6)))
      all_goals
        have hK := HA.out.push hdm.1 hw5 hs2 (fun b o e => by have := hb2 b o e; exact this) hown6 hgrow hat
        have HK := Lib.hid hK
        clear hown6 hgrow hat hs2 hb2 hK hm2 hw5
        go_wp2_with fail
        go_meet
        exact ⟨gg, gcap, A2, c2, rfl, HK.out⟩
    case rest =>
      obtain ⟨gg, cap, A2, c2, rfl, HP⟩ := hcut
      have g2 : wc.cell? ⟨g, 2, none⟩ = some (.pointer ql) := HP.out.1.blk.at (i := 2) rfl
      obtain ⟨x, hx⟩ : ∃ x : VR, x = ⟨⟨A2, c2, p.xs⟩, pl, 0, 0⟩ := ⟨_, rfl⟩
      have hcells : x.cells = [.slice A2 dims c2, .float .f64 pl, .int .i64 0, .int .i64 0] := by rw [hx]; show [Value.slice A2 p.xs.length c2, _, _, _] = _; rw [HA.out.pt.1.1]
      rw [← hx] at HP
      have HX := Lib.hid hx
      have HCX := Lib.hid hcells
      have E1 : Hid ((rs ++ [x]).length = m + 1) := by show _ = _; rw [List.length_append, List.length_singleton, ← HA.out.len]
      have hm0 : (0 : Int) ≤ m := by omega
      clear hx hcells c0 c1
      go_wp2_with (first
        | (go_at_call 25; have _t := tok2; clear _t tok2; refine (HIL.out _ (.pointer ql) (.slice (some ⟨gg, 0, none⟩) (m + 1) cap) (rs ++ [x]) HP.out.1.tl HP.out.1.ks (by have := HP.out.2.2.size; have := HA.out.low; omega) (by have h1 := H1.out.2; rw [List.length_append, List.length_singleton]; simp only [VT.count] at h1; omega)).mono ?_; rintro _ w4 ⟨v1, rs1, he, q1, q2, q3, q4, ⟨A1, c1, q5⟩⟩; rw [E1.out] at he q2; subst he; obtain ⟨n1, hn1⟩ : ∃ n1, n1 = ((rs ++ [x]) ++ rs1).length := ⟨_, rfl⟩; rw [← hn1] at q5; subst q5; have HQ1 := Lib.hid (And.intro (HP.out.1.step hdm.1 q1 q3 q4) (And.intro q2 (And.intro q3 (And.intro q4 hn1)))); clear q1 q2 q3 q4 hn1; have g3 : w4.cell? ⟨g, 3, none⟩ = some (.pointer qr) := HQ1.out.1.blk.at (i := 3) rfl)
        | (go_at_call 25; refine (HIR.out _ (.pointer qr) (.slice A1 n1 c1) ((rs ++ [x]) ++ rs1) HQ1.out.1.tr HQ1.out.1.ks (by have := HP.out.2.2.size; have := HQ1.out.2.2.1.size; have := HA.out.low; omega) (by have h1 := H1.out.2; have h2 := congrArg List.length HQ1.out.2.1; rw [List.length_map, VT.flat_len] at h2; rw [List.length_append, List.length_append, List.length_singleton]; simp only [VT.count] at h1; omega)).mono ?_; rintro _ w5 ⟨v2, rs2, he, q1, q2, q3, q4, -⟩; rw [vn_len2 E1.out HQ1.out.2.1] at he q2; subst he; obtain ⟨n2, hn2⟩ : ∃ n2, n2 = (((rs ++ [x]) ++ rs1) ++ rs2).length := ⟨_, rfl⟩; obtain ⟨gb, c2', q5, -, -⟩ := q1.own.form (by rw [← hn2]; have := vn_pos hn2; omega); rw [← hn2] at q5; subst q5; have hget := vn_get rs1 rs2 x HA.out.len; have y2 := (q1.cell hn2 hget (j := 2) (by omega)); have y3 := (q1.cell hn2 hget (j := 3) (by omega)); rw [HCX.out] at y2 y3; have hmn : (m : Int) < n2 := (by have := vn_lt HA.out.len hn2; omega); have HQ2 := Lib.hid (And.intro q1 (And.intro q2 (And.intro q3 (And.intro q4 hn2)))); clear q1 q2 q3 q4 hn2 hget; have y2' := y2.1; have z2' := y2.2; have y3' := y3.1; have z3' := y3.2; simp only [List.getElem?_cons_succ, List.getElem?_cons_zero] at y2' y3'; clear y2 y3))
      go_ret2
      exact vn_end (x := x) HA.out.len (by rw [HX.out]; rfl) HA.out.low HP.out.2.2 HP.out.2.1 HQ1.out.2.2.1 HQ1.out.2.2.2.1 HQ2.out.2.2.1 HQ2.out.2.2.2.1 HQ1.out.2.1 HQ2.out.2.1 HQ2.out.1 HQ2.out.2.2.2.2
end Go.Proofs.YtpamoleocjdjiaaDoor

namespace Lox.VB
variable {α : Type}

theorem built_mem {sq : α → α → Int} {ps : List α} {t : T α} (h : Built sq ps t) : ∀ x ∈ t.pts, x ∈ ps := by
  induction h with
  | nil => intro x hx; cases hx
  | one p => intro x hx; simpa [T.pts] using hx
  | more ps qs v m r l g h2 hv hp hup hm hr hl hg ihl ihg =>
    intro x hx
    rw [T.pts] at hx
    rcases List.mem_append.1 hx with hx | hx
    · exact hp.mem_iff.1 (List.mem_of_mem_take (List.mem_of_mem_drop (ihl x hx)))
    · rcases List.mem_cons.1 hx with rfl | hx
      · exact hv
      · exact hp.mem_iff.1 (List.mem_of_mem_drop (ihg x hx))

theorem built_count {sq : α → α → Int} {ps : List α} {t : T α} (h : Built sq ps t) : t.pts.length = ps.length := by
  induction h with
  | nil => rfl
  | one p => rfl
  | more ps qs v m r l g h2 hv hp hup hm hr hl hg ihl ihg =>
    have hlen := hp.length_eq
    rw [T.pts, List.length_append, List.length_cons, ihl, ihg, List.length_drop, List.length_take, List.length_drop]
    omega
end Lox.VB
namespace Go.Proofs.YtpamoleocjdjiaaDoor
open Go.RowKit Lox
set_option linter.unusedVariables false
attribute [local go_sem] run_store_flt run_store_fn
attribute [local go_sem ↓] Go.wp_at_zero Go.wp_at_succ

theorem catch_vb (p q r : Addr) (w : World) :
    CallsD Tryd.prog 22 #[.pointer (some p), .pointer (some q), .pointer (some r)] .returning w fun e u' w' => e = .returned (.tuple #[]) ∧ u' = .returning ∧ w' = w := by
  refine callsD_of_wpS Tryd.func22 rfl fun c₀ cs hu => ?_
  apply wpS_seq
  apply wpS_region
  simp [wpOpsS, go_sem, recoverD, hu, Tryd.ntmps22, Exit.thenS]
  refine wpS_cond (t := false) (by simp [Act.eval, Array.replicate]) ?_
  simp only [Bool.false_eq_true, if_false]
  refine wpS_of_wp (wp_skip ?_)
  cases c₀
  simp_all [bodyPostS, results, Tryd.results22]

theorem vinit3 (w : World) (H : Nat) (hH : w.heap.size = H) : ∃ W, W = (((w.alloc (.cells #[.slice none 0 0] 28)).alloc (.cells #[.int .i64 0] 3)).alloc (.cells #[.bool false] 4)) ∧ W.heap.size = H + 3 ∧ Mod (fun _ => False) w W ∧
    Blk W H 28 [.slice none 0 0] ∧ Blk W (H + 1) 3 [.int .i64 0] ∧ Blk W (H + 2) 4 [.bool false] := by
  have hs : ∀ (w : World) (o : Obj) (k : Nat), w.heap.size = k → (w.alloc o).heap.size = k + 1 := fun w o k h => by rw [World.size_alloc, h]
  have s1 := hs w (.cells #[.slice none 0 0] 28) H hH
  have s2 := hs _ (.cells #[.int .i64 0] 3) _ s1
  have s3 := hs _ (.cells #[.bool false] 4) _ s2
  have nb : ∀ (w : World) (k : Nat) (c : Array Value) (T : TypeId), w.heap.size = k → Blk (w.alloc (.cells c T)) k T c.toList := fun w k c T h => by subst h; exact Blk.new' w c T
  refine ⟨_, rfl, s3, (((Mod.refl _ _).alloc _).alloc _).alloc _, ?_, ?_, ?_⟩
  · exact ((nb w H _ _ hH).alloc _).alloc _
  · exact (nb _ _ _ _ s1).alloc _
  · exact nb _ _ _ _ s2

set_option maxHeartbeats 1000000 in
theorem vtlen_at (w : World) (tb n : Nat) (v : Value) (hb : Blk w tb 67 [v, .int .i64 n]) :
    Calls Tryd.prog 26 #[.pointer (some ⟨tb, 0, none⟩)] w fun e w' => e = .returned (.int .i64 n) ∧ w = w' := by
  have c1 := hb.at (i := 1) rfl
  clear hb
  go_enter Tryd.func26, Tryd.ntmps26
  go_wp2
  go_ret
  exact ⟨rfl, rfl⟩

/-- What VBuild tells. -/
def VbTold (dims n : Nat) (ps : List TP) (w : World) (e : Ending) (w' : World) : Prop :=
  ∃ (v : Value) (rs : List VR) (vt : VT) (qs : List TP), e = .returned (.tuple #[v, .int .i64 (n : Int), .bool true]) ∧ VS w.heap.size w' dims v rs ∧ rs.map VR.plain = vt.flat 0 ∧ VB.Built (vsq dims) qs vt.T ∧
    qs.map TP.xs = ps.map TP.xs ∧ Mod (fun _ => False) w w' ∧ (∃ A c, v = .slice A rs.length c)

theorem VT.count_pts : ∀ t : VT, t.pts.length = t.count := by
  intro t
  induction t with
  | nil => rfl
  | node g p r l f ihl ihr => simp only [VT.pts, VT.count, List.length_append, List.length_cons, ihl, ihr]; omega

theorem VS.keepB {B B' : Nat} {w W : World} {dims : Nat} {v : Value} {rs : List VR} (h : VS B w dims v rs) (hk : ∀ j, B ≤ j → W.heap[j]? = w.heap[j]?) (hB : B' ≤ B) : VS B' W dims v rs := by
  have kp : ∀ p : TP, p.Own B w dims v → p.Own B' W dims v := fun p hp => by
    refine ⟨⟨hp.1.1, hp.1.2.1, fun h0 => ?_⟩, fun b o e => ⟨by have := (hp.2 b o e).1; omega, (hp.2 b o e).2⟩⟩
    obtain ⟨b, o, e, hc⟩ := hp.1.2.2 h0
    exact ⟨b, o, e, fun j u hu => (World.cell?_of_block (w := w) (hk b (hp.2 b o e).1)).trans (hc j u hu)⟩
  refine ⟨⟨h.own.1, ?_⟩, fun x hx => kp _ (h.ok x hx)⟩
  rcases h.own.2 with h | ⟨g, cap, cur, e1, hB1, hg, rest⟩
  · exact .inl h
  · exact .inr ⟨g, cap, cur, e1, by omega, (hk g hB1).trans hg, rest⟩

theorem gr_same2 {ps qs : List TP} (h : qs.map TP.xs = ps.map TP.xs) (hg : ∀ p ∈ ps, p.Gr) : ∀ q ∈ qs, q.Gr := by
  intro q hq
  have : q.xs ∈ ps.map TP.xs := by rw [← h]; exact List.mem_map_of_mem hq
  obtain ⟨p, hp, e⟩ := List.mem_map.1 this
  have := hg p hp
  unfold TP.Gr TP.n at *
  rw [← e]
  exact this

/-- What stands ahead of vnodes. -/
theorem vb_ready {w4 w5 : World} {dims pb n : Nat} {qs : List TP} {v : Value} {vt : VT} (hl : qs.length = n) (hq : ∀ p ∈ qs, p.Okp w4 dims pb) (hm : Mod (fun k => k = pb) w4 w5) (hv : vt.In w5 v) (hb : VB.Built (vsq dims) qs vt.T) :
    VTr w5 dims vt v (.slice none 0 0) ∧ vt.count = n := by
  refine ⟨⟨hv, fun p hp => ⟨?_, fun b o e e2 => by cases e2⟩⟩, ?_⟩
  · rw [VT.pts_all] at hp
    have h1 := hq p (VB.built_mem hb p hp)
    exact h1.1.apart hm fun b o e => h1.2 b o e
  · rw [← VT.count_pts, VT.pts_all, VB.built_count hb, hl]

set_option maxRecDepth 100000 in
set_option maxHeartbeats 8000000 in
theorem vbuild2_at (O : Option Addr) (n c dims hi lo : Nat) (ps : List TP) (w : World) (hp : PRows w O n ps dims) (hg : ∀ p ∈ ps, p.Gr) (hn : 0 < n ∧ n ≤ 200) (hdm : 0 < dims ∧ dims ≤ 4) (h1 : hi < 18446744073709551616) (h2 : lo < 18446744073709551616) :
    Calls Tryd.prog 8 #[.slice O n c, .int .u64 hi, .int .u64 lo] w (VbTold dims n ps w) := by
  have hmf : ∀ (fn : Fn) (first cap : Array Value) (w : World), (Instr.makeFunc fn first cap).run Tryd.prog w = .ok (.func fn first cap) w := fun _ _ _ _ => rfl
  obtain ⟨H, hH⟩ : ∃ H, w.heap.size = H := ⟨_, rfl⟩
  obtain ⟨W3, eW3, z3, m3, q0, q1, q2⟩ := vinit3 w H hH
  have H3 : Hid (W3.heap.size = H + 3 ∧ Mod (fun _ => False) w W3 ∧ Blk W3 H 28 [.slice none 0 0] ∧ Blk W3 (H + 1) 3 [.int .i64 0] ∧ Blk W3 (H + 2) 4 [.bool false]) := ⟨z3, m3, q0, q1, q2⟩
  have HEW := Lib.hid eW3
  have HP := Lib.hid (And.intro hp hg)
  have hdm2 : 0 < dims ∧ dims ≤ 1099511627776 := ⟨hdm.1, by omega⟩
  clear hp hg z3 m3 q0 q1 q2 eW3
  go_enter_defers Tryd.func8, Tryd.ntmps8
  go_wp2_with (first
    | (go_at_call 24; rw [← HEW.out]; refine (vpoints_at O n c dims ps W3 (HP.out.1.mod H3.out.2.1) (by omega) hdm2).mono ?_; rintro _ w4 ⟨X, cX, pb, qs, rfl, k1, k2, k3, k4, k5, k6, k7, k8⟩; obtain ⟨rfl, k9⟩ := k7 hn.1; have H6 := Lib.hid (And.intro k1 (And.intro k2 (And.intro k3 (And.intro k4 (And.intro k5 (And.intro k6 (And.intro k9 k8))))))); clear k1 k2 k3 k4 k5 k6 k7 k8 k9)
    | (go_at_call 23; refine (drawn_at _ dims pb n cX hi lo qs H6.out.1 hn.1 hn.2 H6.out.2.2.1 H6.out.2.2.2.1 hdm H6.out.2.2.2.2.2.2.1 (fun p hp => ⟨(H6.out.2.2.2.2.2.2.2 p hp).1.1, gr_same2 H6.out.2.1 HP.out.2 p hp, fun b o e => (H6.out.2.2.2.2.2.2.2 p hp).1.2 b o e⟩) h1 h2).mono ?_; rintro _ w5 ⟨tb, v, vt, rfl, a1, a2, a3, a4, a5, a6, a7, a8⟩; obtain ⟨qv, rfl⟩ := a2.ptr; have t0 := a1.at (i := 0) rfl; have HA := Lib.hid (And.intro a1 (And.intro a2 (And.intro a3 (And.intro a4 (And.intro a5 (And.intro a6 (And.intro a7 a8))))))); clear a1 a2 a3 a4 a5 a6 a7 a8))
  have hlow := HA.out.2.2.2.2.2.1
  have s4 := H6.out.2.2.2.2.1.size
  have hpb := H6.out.2.2.2.2.2.1
  have hm45 : Mod (fun _ => False) W3 w5 := H6.out.2.2.2.2.1.trans' HA.out.2.2.2.2.2.2.2 fun k hk h => by omega
  have hR := vb_ready H6.out.1 (fun p hp => (H6.out.2.2.2.2.2.2.2 p hp).1) HA.out.2.2.2.2.2.2.2 HA.out.2.1 HA.out.2.2.1
  have s5 := hm45.size
  have HT := Lib.hid (And.intro hR (And.intro hm45 (VS.nil (H + 3) w5 dims)))
  have hz3 := H3.out.1
  have hH3 : H + 3 ≤ w5.heap.size := by omega
  have hm5w : Mod (fun _ => False) w w5 := H3.out.2.1.trans hm45
  have HM5 := Lib.hid hm5w
  clear hR hm45 hm5w
  go_wp2_with (go_at_call 25; refine (vnodes_at (H + 3) dims hdm2 vt w5 (.pointer qv) (.slice none 0 0) [] HT.out.1.1 HT.out.2.2 hH3 (by rw [HT.out.1.2, List.length_nil]; omega)).mono ?_; rintro _ w6 ⟨v', rs, rfl, r1, r2, r3, r4, ⟨A5, c5, r5⟩⟩; obtain ⟨N, hN⟩ : ∃ N, N = ([] ++ rs : List VR).length := ⟨_, rfl⟩; rw [← hN] at r5; subst r5; have hm6 : Mod (fun _ => False) w5 w6 := r3.mono (fun _ _ h => by cases h); have b0 := (H3.out.2.2.1.mod HT.out.2.1 (fun h => h)).mod hm6 (fun h => h); have y0 := b0.at (i := 0) rfl; have z0 := b0.frozen 0; have H5 := Lib.hid (And.intro r1 (And.intro r2 (And.intro hm6 (And.intro b0 hN)))); clear r1 r2 r3 r4 hm6 b0 hN)
  obtain ⟨W6, eW6⟩ : ∃ W6, W6 = w6.setCell ⟨H, 0, none⟩ (.slice A5 N c5) := ⟨_, rfl⟩
  rw [← eW6]
  have d0 : Blk W6 H 28 [.slice A5 N c5] := by rw [eW6]; exact H5.out.2.2.2.1.set 0 _
  have d1 : Blk W6 (H + 1) 3 [.int .i64 0] := by rw [eW6]; exact ((H3.out.2.2.2.1.mod HT.out.2.1 (fun h => h)).mod H5.out.2.2.1 (fun h => h)).other _ (by show H ≠ H + 1; omega)
  have d2 : Blk W6 (H + 2) 4 [.bool false] := by rw [eW6]; exact ((H3.out.2.2.2.2.mod HT.out.2.1 (fun h => h)).mod H5.out.2.2.1 (fun h => h)).other _ (by show H ≠ H + 2; omega)
  have dt : Blk W6 tb 67 [.pointer qv, .int .i64 (n : Int)] := by rw [eW6]; exact (HA.out.1.mod H5.out.2.2.1 (fun h => h)).other _ (by show H ≠ tb; omega)
  have hm6 : Mod (fun _ => False) w W6 := by rw [eW6]; exact (HM5.out.trans H5.out.2.2.1).set (p := ⟨H, 0, none⟩) (.inr (by show w.heap.size ≤ H; omega)) _
  have hk6 : ∀ j, H + 3 ≤ j → W6.heap[j]? = w6.heap[j]? := fun j hj => by rw [eW6]; exact Below.heap_setCell _ _ _ _ (by show j ≠ H; omega)
  have x0 := d0.at (i := 0) rfl
  have x1 : W6.cell? ⟨H + 1, 0, none⟩ = some (.int .i64 0) := d1.at (i := 0) rfl
  have x2 : W6.cell? ⟨H + 1 + 1, 0, none⟩ = some (.bool false) := d2.at (i := 0) rfl
  have g0 := d0.frozen 0
  have g1 := d1.frozen 0
  have g2 : W6.frozen? ⟨H + 1 + 1, 0, none⟩ = false := d2.frozen 0
  have HD := Lib.hid (And.intro d0 (And.intro d1 (And.intro d2 (And.intro dt (And.intro hm6 hk6)))))
  clear d0 d1 d2 dt hm6 hk6 eW6 y0 z0 t0
  have e1 := HD.out.1.set 0 (.slice A5 N c5)
  have e2 := e1.other (a := ⟨H + 1, 0, none⟩) (.int .i64 (n : Int)) (by show H + 1 ≠ H; omega)
  have e3 := e2.other (a := ⟨H + 1 + 1, 0, none⟩) (.bool true) (by show H + 1 + 1 ≠ H; omega)
  have v1 : (W6.setCell ⟨H, 0, none⟩ (.slice A5 N c5)).drew.cell? ⟨H, 0, none⟩ = some (.slice A5 N c5) := e1.drew.at (i := 0) rfl
  have v2 : ((W6.setCell ⟨H, 0, none⟩ (.slice A5 N c5)).setCell ⟨H + 1, 0, none⟩ (.int .i64 (n : Int))).drew.cell? ⟨H, 0, none⟩ = some (.slice A5 N c5) := e2.drew.at (i := 0) rfl
  have v3 : (((W6.setCell ⟨H, 0, none⟩ (.slice A5 N c5)).setCell ⟨H + 1, 0, none⟩ (.int .i64 (n : Int))).setCell ⟨H + 1 + 1, 0, none⟩ (.bool true)).drew.cell? ⟨H, 0, none⟩ = some (.slice A5 N c5) := e3.drew.at (i := 0) rfl
  have v0 : W6.drew.cell? ⟨H, 0, none⟩ = some (.slice A5 N c5) := x0
  have HV := Lib.hid (And.intro v1 (And.intro v2 v3))
  clear e1 e2 e3 v1 v2 v3
  go_region_held3 (fun w' => w'.cell? ⟨H, 0, none⟩ = some (.slice A5 N c5)) (first | with_reducible exact v0 | with_reducible exact HV.out.1 | with_reducible exact HV.out.2.1 | with_reducible exact HV.out.2.2 | go_keep)
    (first | (go_at_call 26; refine (vtlen_at _ tb n (.pointer qv) (by first | exact HD.out.2.2.2.1 | exact HD.out.2.2.2.1.drew)).mono ?_; rintro _ _ ⟨rfl, rfl⟩))
  obtain ⟨W7, eW7⟩ : ∃ W7, W7 = (((W6.setCell ⟨H, 0, none⟩ (.slice A5 N c5)).setCell ⟨H + 1, 0, none⟩ (.int .i64 (n : Int))).setCell ⟨H + 1 + 1, 0, none⟩ (.bool true)).drew := ⟨_, rfl⟩
  rw [← eW7]
  have r0 : W7.cell? ⟨H, 0, none⟩ = some (.slice A5 N c5) := by rw [eW7]; exact HV.out.2.2
  have r1 : W7.cell? ⟨H + 1, 0, none⟩ = some (.int .i64 (n : Int)) := by
    rw [eW7]
    have q1 := ((HD.out.2.1.other (a := ⟨H, 0, none⟩) (.slice A5 N c5) (by show H ≠ H + 1; omega)).set 0 (.int .i64 (n : Int))).other (a := ⟨H + 1 + 1, 0, none⟩) (.bool true) (by show H + 1 + 1 ≠ H + 1; omega)
    exact q1.drew.at (i := 0) rfl
  have r2 : W7.cell? ⟨H + 1 + 1, 0, none⟩ = some (.bool true) := by
    rw [eW7]
    have q1 := ((HD.out.2.2.1.other (a := ⟨H, 0, none⟩) (.slice A5 N c5) (by show H ≠ H + 2; omega)).other (a := ⟨H + 1, 0, none⟩) (.int .i64 (n : Int)) (by show H + 1 ≠ H + 2; omega)).set 0 (.bool true)
    exact q1.drew.at (i := 0) rfl
  have hfin : VbTold dims n ps w (.returned (.tuple #[.slice A5 N c5, .int .i64 (n : Int), .bool true])) W7 := by
    obtain ⟨s1, s2, s3, s4, s5⟩ := H5.out
    rw [List.nil_append] at s1 s5
    refine ⟨_, rs, vt, qs, rfl, s1.keepB (fun j hj => ?_) (by omega), s2, HA.out.2.2.1, H6.out.2.1, ?_, ⟨A5, c5, by rw [s5]⟩⟩
    · rw [eW7, show ∀ w : World, w.drew.heap = w.heap from fun _ => rfl, Below.heap_setCell _ _ _ _ (by show j ≠ H + 1 + 1; omega), Below.heap_setCell _ _ _ _ (by show j ≠ H + 1; omega), Below.heap_setCell _ _ _ _ (by show j ≠ H; omega)]
      exact HD.out.2.2.2.2.2 j hj
    · rw [eW7]
      exact (((HD.out.2.2.2.2.1.set (p := ⟨H, 0, none⟩) (.inr (by show w.heap.size ≤ H; omega)) _).set (p := ⟨H + 1, 0, none⟩) (.inr (by show w.heap.size ≤ H + 1; omega)) _).set (p := ⟨H + 1 + 1, 0, none⟩) (.inr (by show w.heap.size ≤ H + 1 + 1; omega)) _).drew
  have HFIN := Lib.hid hfin
  have HRR := Lib.hid (And.intro r0 (And.intro r1 r2))
  clear hfin r0 r1 r2 eW7 x0 x1 x2 g0 g1 g2 v0
  go_wp2_with fail
  refine leaves_cons (f := 22) (args := #[.pointer (some ⟨H, 0, none⟩), .pointer (some ⟨H + 1, 0, none⟩), .pointer (some ⟨H + 1 + 1, 0, none⟩)]) (by simp) (by simp [go_sem]) ?_
  refine (catch_vb ⟨H, 0, none⟩ ⟨H + 1, 0, none⟩ ⟨H + 1 + 1, 0, none⟩ _).mono ?_
  rintro e u' w'' ⟨rfl, rfl, rfl⟩
  obtain ⟨r0, r1, r2⟩ := HRR.out
  simp [Leaves, settle, results, Tryd.results8, go_sem, r0, r1, r2]
  exact HFIN.out
end Go.Proofs.YtpamoleocjdjiaaDoor

namespace Go.Proofs.YtpamoleocjdjiaaDoor.W
open Go.RowKit Lox
set_option linter.unusedVariables false
attribute [local go_sem] run_store_flt run_store_fn
attribute [local go_sem ↓] Go.wp_at_zero Go.wp_at_succ

theorem info_row2 : (Tryd.prog.info? 26).map (fun i => (i.zero, i.size, i.bytes)) = some (some (.slice none 0 0), 1, 24) := by kernel_rfl

/-- A node's point, as a value. -/
def PVv (xs : List VN) (k : Nat) : Value := ((xs[k]?).map fun x => x.p.v).getD (.slice none 0 0)

/-- What VBelow tells. -/
def BelowTold (xs : List VN) (s : SH) (w : World) (e : Ending) (w' : World) : Prop :=
  ∃ v, e = .returned v ∧ w'.ownsRow w.heap.size 26 1 v s.ord.length (s.ord.map (PVv xs)) ∧ Mod (fun _ => False) w w'

theorem ownsRow_low {w : World} {B B' e n : Nat} {v : Value} {xs : List Value} (h : w.ownsRow B e 1 v n xs) (hB : B' ≤ B) : w.ownsRow B' e 1 v n xs := by
  refine ⟨h.1, ?_⟩
  rcases h.2 with h | ⟨g, cap, cur, e1, hb, rest⟩
  · exact .inl h
  · exact .inr ⟨g, cap, cur, e1, by omega, rest⟩

theorem own_form {w : World} {B e n : Nat} {v : Value} {xs : List Value} (h : w.ownsRow B e 1 v n xs) : ∃ A c, v = .slice A n c ∧ c ≤ 9223372036854775807 ∧ Sl w A n 1 xs := by
  rcases h.2 with ⟨rfl, h0⟩ | ⟨g, cap, cur, rfl, hB, hg, hc, hcm, hsz, ht⟩
  · subst h0
    exact ⟨none, 0, rfl, by omega, by have := h.1; simpa using this, fun h => by omega⟩
  · refine ⟨_, cap, rfl, by unfold maxLen at hcm; exact hcm, h.1, fun _ => ⟨g, 0, rfl, fun j u hu => ?_⟩⟩
    have := h.cells (g := g) rfl j u hu
    rw [addr_lit] at this
    exact this

theorem below_mid {w W w1 w3 : World} {e n : Nat} {v : Value} {xs : List Value} (ho : w1.ownsRow w.heap.size e 1 v n xs) (hW : Mod (fun _ => False) w W) (hg : W.grownBy w3 v.ownBlock) : Mod (fun _ => False) w w3 :=
  hW.grown hg (fun k e hk => by have := (own_block ho e).1; omega)

theorem pv_one {xs : List VN} {l : List Nat} : ∀ u ∈ l.map (PVv xs), u.oneCell' = true := by
  intro u hu
  obtain ⟨k, _, rfl⟩ := List.mem_map.1 hu
  unfold PVv
  cases xs[k]? <;> rfl

set_option maxRecDepth 100000 in
set_option maxHeartbeats 4000000 in
theorem below_at (T : Option Addr) (c n : Nat) (xs : List VN) (hn : n = xs.length) (hn2 : n ≤ 2147483647) (s : SH) :
    ∀ (i above : Int) (w : World), s.At (VC xs) (VF xs) n i above → -1 ≤ above → s.ord.length ≤ 2147483647 → Nodes w T xs → Calls Tryd.prog 11 #[.slice T n c, .int .i64 i] w (BelowTold xs s w) := by
  obtain ⟨i0, hi0, hz0, hz1, hz2⟩ := info_parts info_row2
  have HI := Lib.hid (And.intro hi0 (And.intro hz0 (And.intro hz1 hz2)))
  clear hi0 hz0 hz1 hz2
  induction s with
  | nil =>
    intro i above w hs ha hl hN
    have hi : i = -1 := hs
    subst hi
    clear hs hN
    go_enter Tryd.func11, Tryd.ntmps11
    go_wp2
    go_ret
    exact ⟨_, rfl, World.ownsRow_nil _ _ _ _, Mod.refl _ _⟩
  | node k l r ihl ihr =>
    intro i above w hs ha hl hN
    obtain ⟨rfl, h1, h2, h3, h4⟩ := hs
    have hk2 : k < xs.length := by omega
    have ex : xs[k]? = some xs[k] := List.getElem?_eq_getElem hk2
    obtain ⟨b, o, e, hc⟩ := hN.2.1 (by omega)
    have hx := hc k _ ex
    generalize xs[k] = x at hx ex
    have hVC : VC xs k = x.c := by simp [VC, ex]
    have hVF : VF xs k = x.f := by simp [VF, ex]
    have hPV : PVv xs k = x.p.v := by simp [PVv, ex]
    have hl2 : l.ord.length + 1 + r.ord.length ≤ 2147483647 := by simp only [SH.ord, List.length_append, List.length_cons] at hl; omega
    rw [hVC] at h3
    rw [hVF] at h4
    have HIL : Hid (∀ w1 : World, Mod (fun _ => False) w w1 → Calls Tryd.prog 11 #[.slice T n c, .int .i64 x.c] w1 (BelowTold xs l w1)) := fun w1 hm => ihl x.c k w1 h3 (by omega) (by omega) (hN.mod hm)
    have HIR : Hid (∀ w1 : World, Mod (fun _ => False) w w1 → Calls Tryd.prog 11 #[.slice T n c, .int .i64 x.f] w1 (BelowTold xs r w1)) := fun w1 hm => ihr x.f k w1 h4 (by omega) (by omega) (hN.mod hm)
    have HP := Lib.hid hPV
    clear hc hN hk2 ex hVC hVF h3 h4 ihl ihr hl hPV hn
    obtain ⟨⟨A, np, c', ys⟩, pl, cl, fu⟩ := x
    obtain ⟨c0, _, c2, c3⟩ := hx
    simp only [Pt.v] at c0 c2 c3 HP
    subst e
    have hcl := lt_of_cell c0
    have HC : Hid (∀ w1 : World, Mod (fun _ => False) w w1 → w1.cell? ⟨b, o + k * 4, none⟩ = some (.slice A np c') ∧ w1.cell? ⟨b, o + k * 4 + 2, none⟩ = some (.int .i64 cl) ∧ w1.cell? ⟨b, o + k * 4 + 3, none⟩ = some (.int .i64 fu)) := fun w1 hm => ⟨(hm.cell (lt_of_cell c0) (fun h => h)).trans c0, (hm.cell (lt_of_cell c2) (fun h => h)).trans c2, (hm.cell (lt_of_cell c3) (fun h => h)).trans c3⟩
    have HL2 := Lib.hid hl2
    have tok1 : True := trivial
    have hkz : (k : Int) < n := by omega
    go_enter Tryd.func11, Tryd.ntmps11
    go_upto_region 3 with fail
    go_cut [5] from 8 to 21 (fun v wx => Hid (wx.ownsRow w.heap.size 26 1 v (l.ord.length + 1) ((l.ord ++ [k]).map (PVv xs)) ∧ Mod (fun _ => False) w wx))
    case first =>
      clear c3
      go_region_law
        (first
          | (go_simp; go_at_call 11; (refine (HIL.out _ (by first | with_reducible exact (Mod.refl _ _).drew | with_reducible exact ((Mod.refl _ _).alloc _).drew)).mono ?_; rintro _ w1 ⟨v1, rfl, ho1, hm1⟩; have hw1 : Mod (fun _ => False) w w1 := (by first | with_reducible exact (Mod.refl _ _).drew.trans hm1 | with_reducible exact ((Mod.refl _ _).alloc _).drew.trans hm1); (try (have hnb : Blk w1 w.heap.size 26 [.slice A np c'] := (Blk.new' w #[.slice A np c'] 26).drew.mod (by with_reducible exact hm1) (fun h => h); have HNB := Lib.hid hnb; clear hnb)); have ho2 : w1.ownsRow w.heap.size 26 1 v1 l.ord.length (l.ord.map (PVv xs)) := ownsRow_low ho1 (by first | exact Nat.le_refl _ | (rw [show ∀ x : World, x.drew.heap.size = x.heap.size from fun _ => rfl, World.size_alloc]; omega)); have hz := hw1.size; have c0 := (HC.out _ hw1).1; have c2 := (HC.out _ hw1).2.1; have H1 := Lib.hid (And.intro ho2 hw1); clear ho1 ho2 hm1 hw1))
          | ((refine step_append_lies _ (by rfl) _ _ _ (by rfl) w.heap.size 26 i0 _ 1 24 Tryd.underlying22 HI.out.1 HI.out.2.1 HI.out.2.2.1 HI.out.2.2.2 rfl (by omega) v1 l.ord.length (l.ord.map (PVv xs)) (by rfl) (H1.out.1.alloc _) ⟨w1.heap.size, 0, none⟩ 1 1 [.slice A np c'] (by rfl) (by rfl) (World.news_of_block (cs := #[.slice A np c']) (t := 26) (fr := (0, 0)) (heap_alloc_new w1 _)) (by simp [Value.oneCell']) (by omega) (by have := HL2.out; unfold maxLen; omega) (by have := HL2.out; omega) (by have := hz; simp; omega) (w1.heap.size + 1) (by simp) ?_; intro gg cap w3 hown3 hgrow hat hlt3; have hwm : Mod (fun _ => False) w w3 := below_mid H1.out.1 (H1.out.2.alloc _) hgrow; have H3 := Lib.hid (And.intro hown3 hwm); clear hown3 hgrow hat hlt3 hwm))
          | ((refine step_append_lies _ (by rfl) _ _ _ (by rfl) w.heap.size 26 i0 _ 1 24 Tryd.underlying22 HI.out.1 HI.out.2.1 HI.out.2.2.1 HI.out.2.2.2 rfl (by omega) v1 l.ord.length (l.ord.map (PVv xs)) (by rfl) H1.out.1 ⟨w.heap.size, 0, none⟩ 1 1 [.slice A np c'] (by rfl) (by rfl) (World.news_of_block (cs := #[.slice A np c']) (t := 26) (fr := (0, 0)) HNB.out) (by simp [Value.oneCell']) (by omega) (by have := HL2.out; unfold maxLen; omega) (by have := HL2.out; omega) (by have := hz; omega) w1.heap.size rfl ?_; intro gg cap w3 hown3 hgrow hat hlt3; have hwm : Mod (fun _ => False) w w3 := below_mid H1.out.1 H1.out.2 hgrow; have H3 := Lib.hid (And.intro hown3 hwm); clear hown3 hgrow hat hlt3 hwm)))
      all_goals
        go_wp2_with fail
        go_meet
        exact ⟨by rw [List.map_append, List.map_cons, List.map_nil, HP.out]; exact H3.out.1, H3.out.2⟩
    case rest =>
      have HCC := Lib.hid hcut
      clear hcut c0 c2 c3
      have c3 := (HC.out _ HCC.out.2).2.2
      go_wp2_with (first
        | (go_at_call 11; refine (HIR.out _ HCC.out.2).mono ?_; rintro _ w4 ⟨v2, rfl, ho4, hm4⟩; obtain ⟨X, cX, rfl, hcX, hsX⟩ := own_form ho4; have H4 := Lib.hid (And.intro hsX hm4); clear ho4 hm4 hcX hsX)
        | (at_builtin; refine wpList_append_opt _ rfl _ _ _ rfl w.heap.size 26 i0 (.slice none 0 0) 24 Tryd.underlying22 HI.out.1 HI.out.2.1 HI.out.2.2.1 HI.out.2.2.2 rfl u5 (l.ord.length + 1) ((l.ord ++ [k]).map (PVv xs)) rfl (HCC.out.1.kept H4.out.2.grownBy (Decidable.em _)) X r.ord.length cX (r.ord.map (PVv xs)) rfl H4.out.1 pv_one (by have := HL2.out; unfold maxLen; omega) (by have := HL2.out; omega) (by have := HCC.out.2.size; have := H4.out.2.size; omega) ?_; intro v5 w5 hown5 hgrow5; have H5 := Lib.hid (And.intro hown5 (below_mid HCC.out.1 (HCC.out.2.trans H4.out.2) hgrow5)); clear hown5 hgrow5))
      go_ret
      refine ⟨v5, rfl, ?_, H5.out.2⟩
      have h := H5.out.1
      rw [← List.map_append, show (l.ord ++ [k]) ++ r.ord = (SH.node k l r).ord from by simp [SH.ord], show l.ord.length + 1 + r.ord.length = (SH.node k l r).ord.length from by simp [SH.ord]; omega] at h
      exact h
end Go.Proofs.YtpamoleocjdjiaaDoor.W

namespace Go.Proofs.YtpamoleocjdjiaaDoor.W
open Go.RowKit Lox
set_option linter.unusedVariables false

set_option maxHeartbeats 1000000 in
theorem sides_at (T : Option Addr) (c : Nat) (xs : List VN) (pt : Nat) (i : Nat) (x : VN) (w : World) (hb : Blk w pt 28 [.slice T xs.length c]) (h : Nodes w T xs) (hi : xs[i]? = some x) :
    Calls Tryd.prog 28 #[.int .i64 i, .pointer (some ⟨pt, 0, none⟩)] w fun e w' => e = .returned (.tuple #[.int .i64 x.c, .int .i64 x.f]) ∧ Mod (fun _ => False) w w' := by
  have cp := hb.at (i := 0) rfl
  obtain ⟨m, hm⟩ : ∃ m, m = xs.length := ⟨_, rfl⟩
  have him : i < m := by rw [hm]; exact (List.getElem?_eq_some_iff.1 hi).1
  have hml : m ≤ 9223372036854775807 := by rw [hm]; exact h.1
  obtain ⟨b, o, e, hc⟩ := h.2.1 (by omega)
  have hx := hc _ _ hi
  rw [← hm] at cp
  clear hm hi h hc hb
  obtain ⟨⟨A, n, c', ys⟩, r, cl, fu⟩ := x
  obtain ⟨c0, c1, c2, c3⟩ := hx
  simp only [Pt.v] at c0 c1 c2 c3
  subst e
  go_enter Tryd.func28, Tryd.ntmps28
  go_wp2
  go_region
  go_wp2
  exact bodyPost_ret (v := .tuple #[.int .i64 cl, .int .i64 fu]) (by simp [results, Tryd.results28, go_sem]) rfl ⟨rfl, (Mod.refl _ _).drew⟩

end Go.Proofs.YtpamoleocjdjiaaDoor.W

namespace Go.Proofs.YtpamoleocjdjiaaDoor.W
open Go.RowKit Lox
set_option linter.unusedVariables false

/-- The function that goes on from a node, as a value: its variables are the seven behind each other. -/
def fromV (H : Nat) : Value := .func (Fn.func 45) #[] #[.pointer (some ⟨H + 4, 0, none⟩), .pointer (some ⟨H, 0, none⟩), .pointer (some ⟨H + 6, 0, none⟩), .pointer (some ⟨H + 1, 0, none⟩), .pointer (some ⟨H + 7, 0, none⟩), .pointer (some ⟨H + 2, 0, none⟩), .pointer (some ⟨H + 3, 0, none⟩)]

/-- Two rows of numbers of their own, made from B on. -/
structure Two (B : Nat) (w : World) (v1 v2 : Value) (os ds : List Int) : Prop where
  o1 : w.ownsRow B 3 1 v1 os.length (ints os)
  o2 : w.ownsRow B 3 1 v2 ds.length (ints ds)
  ne : ∀ k, v1.ownBlock = some k → v2.ownBlock ≠ some k

/-- The memory of the walk: H is where its variables begin. -/
structure WS (H n : Nat) (sd : Value) (w0 w : World) (ok : Bool) (os ds : List Int) (bs : List Bool) : Prop where
  bel : Below H w0 w
  size : H + 8 ≤ w.heap.size
  bn : Blk w H 3 [.int .i64 n]
  bsd : Blk w (H + 1) 70 [sd]
  bok : Blk w (H + 4) 4 [.bool ok]
  bS : Blk w (H + 5) 4 (bs.map Value.bool)
  bse : Blk w (H + 6) 93 [.slice (some ⟨H + 5, 0, none⟩) n n]
  bfr : Blk w (H + 7) 94 [fromV H]
  len : bs.length = n
  rows : ∃ v1 v2, Blk w (H + 2) 31 [v1] ∧ Blk w (H + 3) 31 [v2] ∧ Two (H + 8) w v1 v2 os ds

theorem own_ge {w : World} {B : Nat} {e : TypeId} {size : Nat} {v : Value} {n : Nat} {xs : List Value} {k : Nat} (h : w.ownsRow B e size v n xs) (hk : v.ownBlock = some k) : B ≤ k ∧ k < w.heap.size := by
  rcases h.2 with ⟨rfl, _⟩ | ⟨g, cap, cur, rfl, hb, hg, _⟩
  · simp [Value.ownBlock] at hk
  · simp only [Value.ownBlock, Option.some.injEq] at hk
    subst hk
    exact ⟨hb, (Array.getElem?_eq_some_iff.1 hg).1⟩

section
variable {H n : Nat} {sd : Value} {w0 w w' : World} {ok : Bool} {os ds : List Int} {bs : List Bool}

theorem Two.keep {B : Nat} {v1 v2 : Value} (h : Two B w v1 v2 os ds) (hk : ∀ k, B ≤ k → k < w.heap.size → w'.heap[k]? = w.heap[k]?) : Two B w' v1 v2 os ds :=
  ⟨owns_keep h.o1 hk, owns_keep h.o2 hk, h.ne⟩

theorem WS.mod (h : WS H n sd w0 w ok os ds bs) (hm : Mod (fun _ => False) w w') : WS H n sd w0 w' ok os ds bs := by
  obtain ⟨v1, v2, h1, h2, h3⟩ := h.rows
  have hs := h.size
  exact ⟨⟨hm.os.trans h.bel.os, hm.tape.trans h.bel.tape, hm.output.trans h.bel.output, Nat.le_trans h.bel.size hm.size, fun k hk => (hm.block k (by omega) (fun h => h)).trans (h.bel.block k hk)⟩, Nat.le_trans hs hm.size, h.bn.mod hm (fun h => h), h.bsd.mod hm (fun h => h), h.bok.mod hm (fun h => h), h.bS.mod hm (fun h => h), h.bse.mod hm (fun h => h), h.bfr.mod hm (fun h => h), h.len,
    v1, v2, h1.mod hm (fun h => h), h2.mod hm (fun h => h), h3.keep fun k _ hk => hm.block k hk (fun h => h)⟩

theorem below_set {B : Nat} (h : Below B w0 w) {a : Addr} (ha : B ≤ a.block) (v : Value) : Below B w0 (w.setCell a v) :=
  ⟨h.os, h.tape, h.output, by simpa [World.setCell] using h.size, fun k hk => (Below.heap_setCell _ _ _ _ (by omega)).trans (h.block k hk)⟩

theorem WS.no (h : WS H n sd w0 w ok os ds bs) : WS H n sd w0 (w.setCell ⟨H + 4, 0, none⟩ (.bool false)) false os ds bs := by
  obtain ⟨v1, v2, h1, h2, h3⟩ := h.rows
  have hs := h.size
  exact ⟨below_set h.bel (by show H ≤ H + 4; omega) _, by simpa [World.setCell] using hs, h.bn.other _ (by show H + 4 ≠ H; omega), h.bsd.other _ (by show H + 4 ≠ H + 1; omega), h.bok.set 0 _, h.bS.other _ (by show H + 4 ≠ H + 5; omega), h.bse.other _ (by show H + 4 ≠ H + 6; omega), h.bfr.other _ (by show H + 4 ≠ H + 7; omega), h.len,
    v1, v2, h1.other _ (by show H + 4 ≠ H + 2; omega), h2.other _ (by show H + 4 ≠ H + 3; omega), h3.keep fun k hk _ => Below.heap_setCell _ _ _ _ (by show k ≠ H + 4; omega)⟩

theorem WS.see (h : WS H n sd w0 w ok os ds bs) (k : Nat) : WS H n sd w0 (w.setCell ⟨H + 5, k, none⟩ (.bool true)) ok os ds (bs.set k true) := by
  obtain ⟨v1, v2, h1, h2, h3⟩ := h.rows
  have hs := h.size
  exact ⟨below_set h.bel (by show H ≤ H + 5; omega) _, by simpa [World.setCell] using hs, h.bn.other _ (by show H + 5 ≠ H; omega), h.bsd.other _ (by show H + 5 ≠ H + 1; omega), h.bok.other _ (by show H + 5 ≠ H + 4; omega), by rw [List.map_set]; exact h.bS.set k _, h.bse.other _ (by show H + 5 ≠ H + 6; omega), h.bfr.other _ (by show H + 5 ≠ H + 7; omega), by simpa using h.len,
    v1, v2, h1.other _ (by show H + 5 ≠ H + 2; omega), h2.other _ (by show H + 5 ≠ H + 3; omega), h3.keep fun k hk _ => Below.heap_setCell _ _ _ _ (by show k ≠ H + 5; omega)⟩
end

/-- In the midst of the two appends: what has been laid besides (fs), and what the rows are by now. -/
structure Mid (B : Nat) (w wx : World) (v1 v2 : Value) (c1 c2 : List Int) (fs : List (Nat × Int)) : Prop where
  bel : Below B w wx
  size : B ≤ wx.heap.size
  two : Two B wx v1 v2 c1 c2
  fresh : ∀ p ∈ fs, Blk wx p.1 3 [.int .i64 p.2] ∧ v1.ownBlock ≠ some p.1 ∧ v2.ownBlock ≠ some p.1

section
variable {B : Nat} {w wx w' : World} {v1 v2 : Value} {c1 c2 : List Int} {fs : List (Nat × Int)}

theorem Two.mid (h : Two B w v1 v2 c1 c2) (hB : B ≤ w.heap.size) : Mid B w w.drew v1 v2 c1 c2 [] := ⟨(Below.refl _ _).drew, hB, h.keep fun _ _ _ => rfl, fun p hp => by cases hp⟩

theorem Mid.build (h : Mid B w wx v1 v2 c1 c2 fs) (x : Int) : Mid B w (wx.alloc (.cells #[.int .i64 x] 3)) v1 v2 c1 c2 ((wx.heap.size, x) :: fs) := by
  have hs := h.size
  refine ⟨h.bel.alloc (by omega) _, by rw [World.size_alloc]; omega, h.two.keep fun k _ hk => Below.heap_alloc _ _ _ hk, fun p hp => ?_⟩
  rcases List.mem_cons.1 hp with rfl | hp
  · exact ⟨Blk.new _ [.int .i64 x] _, fun e => by have := (own_ge h.two.o1 e).2; omega, fun e => by have := (own_ge h.two.o2 e).2; omega⟩
  · exact ⟨(h.fresh p hp).1.alloc _, (h.fresh p hp).2⟩

theorem Mid.news (h : Mid B w wx v1 v2 c1 c2 fs) {x : Int} {G : Nat} (hm : (G, x) ∈ fs) : ∀ (j : Nat) (u : Value), ([Value.int .i64 x] : List Value)[j]? = some u → wx.cell? ((⟨G, 0, none⟩ : Addr).add j) = some u := by
  intro j u hu
  have := (h.fresh _ hm).1.at hu
  rw [addr_lit]
  simpa using this

theorem Mid.cell (h : Mid B w wx v1 v2 c1 c2 fs) {k i : Nat} {v : Value} (hk : k < B) (hc : w.cell? ⟨k, i, none⟩ = some v) : wx.cell? ⟨k, i, none⟩ = some v :=
  (World.cell?_of_block (w := w) (h.bel.block k hk)).trans hc

theorem Mid.frozen (h : Mid B w wx v1 v2 c1 c2 fs) {k i : Nat} (hk : k < B) (hc : w.frozen? ⟨k, i, none⟩ = false) : wx.frozen? ⟨k, i, none⟩ = false :=
  (World.frozen?_of_block (w := w) (h.bel.block k hk)).trans hc

theorem Mid.app1 (h : Mid B w wx v1 v2 c1 c2 fs) {g cap : Nat} {x : Int} (hown : w'.ownsRow B 3 1 (.slice (some ⟨g, 0, none⟩) (c1.length + 1) cap) (c1.length + 1) (ints c1 ++ [.int .i64 x])) (hg : wx.grownBy w' v1.ownBlock) (hat : v1.ownBlock = some g ∨ g = wx.heap.size) :
    Mid B w w' (.slice (some ⟨g, 0, none⟩) (c1.length + 1) cap) v2 (c1 ++ [x]) c2 fs := by
  have hne : v2.ownBlock ≠ some g := fun e => by
    rcases hat with hat | hat
    · exact h.two.ne g hat e
    · have := (own_ge h.two.o2 e).2; omega
  refine ⟨h.bel.grown hg h.size (fun k hk => (own_ge h.two.o1 hk).1), Nat.le_trans h.size hg.size, ⟨?_, ?_, fun k hk => ?_⟩, fun p hp => ⟨(h.fresh p hp).1.grown hg (fun e => (h.fresh p hp).2.1 e.symm), fun e => ?_, (h.fresh p hp).2.2⟩⟩
  · rw [List.length_append]; simpa [ints] using hown
  · exact h.two.o2.kept hg (by
      cases hv : v2.ownBlock with
      | none => exact .inl rfl
      | some k => exact .inr (fun e => h.two.ne k e.symm hv))
  · simp only [Value.ownBlock, Option.some.injEq] at hk
    subst hk
    exact hne
  · simp only [Value.ownBlock, Option.some.injEq] at e
    subst e
    rcases hat with hat | hat
    · exact (h.fresh p hp).2.1 hat
    · have := (h.fresh p hp).1.lt; omega

theorem Two.turn {B : Nat} {w : World} {v1 v2 : Value} {os ds : List Int} (h : Two B w v1 v2 os ds) : Two B w v2 v1 ds os := ⟨h.o2, h.o1, fun k h2 h1 => h.ne k h1 h2⟩

theorem Mid.turn (h : Mid B w wx v1 v2 c1 c2 fs) : Mid B w wx v2 v1 c2 c1 fs := ⟨h.bel, h.size, h.two.turn, fun p hp => ⟨(h.fresh p hp).1, (h.fresh p hp).2.2, (h.fresh p hp).2.1⟩⟩

theorem Mid.app2 (h : Mid B w wx v1 v2 c1 c2 fs) {g cap : Nat} {x : Int} (hown : w'.ownsRow B 3 1 (.slice (some ⟨g, 0, none⟩) (c2.length + 1) cap) (c2.length + 1) (ints c2 ++ [.int .i64 x])) (hg : wx.grownBy w' v2.ownBlock) (hat : v2.ownBlock = some g ∨ g = wx.heap.size) :
    Mid B w w' v1 (.slice (some ⟨g, 0, none⟩) (c2.length + 1) cap) c1 (c2 ++ [x]) fs := (h.turn.app1 hown hg hat).turn
end

section
variable {H n : Nat} {sd : Value} {w0 w wx : World} {ok : Bool} {os ds c1 c2 : List Int} {bs : List Bool} {fs : List (Nat × Int)} {v1 v2 : Value}

theorem Mid.fin (h : Mid (H + 8) w wx v1 v2 c1 c2 fs) (hw : WS H n sd w0 w ok os ds bs) : WS H n sd w0 ((wx.setCell ⟨H + 2, 0, none⟩ v1).setCell ⟨H + 3, 0, none⟩ v2) ok c1 c2 bs := by
  obtain ⟨u1, u2, h1, h2, h3⟩ := hw.rows
  have hk : ∀ k, k < H + 8 → k ≠ H + 2 → k ≠ H + 3 → ((wx.setCell ⟨H + 2, 0, none⟩ v1).setCell ⟨H + 3, 0, none⟩ v2).heap[k]? = w.heap[k]? := fun k hk a b =>
    (Below.heap_setCell _ _ _ _ b).trans ((Below.heap_setCell _ _ _ _ a).trans (h.bel.block k hk))
  have key : ∀ {k : Nat} {T : TypeId} {xs : List Value}, Blk w k T xs → k < H + 8 → k ≠ H + 2 → k ≠ H + 3 → Blk ((wx.setCell ⟨H + 2, 0, none⟩ v1).setCell ⟨H + 3, 0, none⟩ v2) k T xs := fun hb h1 h2 h3 => by
    have := hk _ h1 h2 h3
    unfold Blk at *
    rw [this]; exact hb
  have hs := h.size
  exact ⟨(hw.bel.trans (h.bel.mono (by omega))).setCell (by show H ≤ H + 2; omega) _ |>.setCell (by show H ≤ H + 3; omega) _, by simpa [World.setCell] using hs,
    key hw.bn (by omega) (by omega) (by omega), key hw.bsd (by omega) (by omega) (by omega), key hw.bok (by omega) (by omega) (by omega), key hw.bS (by omega) (by omega) (by omega), key hw.bse (by omega) (by omega) (by omega), key hw.bfr (by omega) (by omega) (by omega), hw.len,
    v1, v2, ((h1.below h.bel (by omega)).set 0 v1).other _ (by show H + 3 ≠ H + 2; omega), ((h2.below h.bel (by omega)).other _ (by show H + 2 ≠ H + 3; omega)).set 0 v2,
    h.two.keep fun k hk _ => (Below.heap_setCell _ _ _ _ (by show k ≠ H + 3; omega)).trans (Below.heap_setCell _ _ _ _ (by show k ≠ H + 2; omega))⟩

theorem set_comm2 (w : World) {a b : Addr} (h : a.block ≠ b.block) (u v : Value) : (w.setCell a u).setCell b v = (w.setCell b v).setCell a u := by
  have key : ∀ k : Nat, ((w.setCell a u).setCell b v).heap[k]? = ((w.setCell b v).setCell a u).heap[k]? := fun k => by
    simp only [World.setCell, Array.getElem?_modify]
    by_cases ha : k = a.block
    · subst ha
      simp [Ne.symm h]
    · by_cases hb : k = b.block
      · subst hb
        simp [h]
      · simp [Ne.symm ha, Ne.symm hb]
  have : ((w.setCell a u).setCell b v).heap = ((w.setCell b v).setCell a u).heap := Array.ext_getElem? key
  simp only [World.setCell] at this ⊢
  rw [this]

theorem Mid.fin' (h : Mid (H + 8) w wx v1 v2 c1 c2 fs) (hw : WS H n sd w0 w ok os ds bs) : WS H n sd w0 ((wx.setCell ⟨H + 3, 0, none⟩ v2).setCell ⟨H + 2, 0, none⟩ v1) ok c1 c2 bs := by
  rw [set_comm2 _ (by show H + 3 ≠ H + 2; omega)]
  exact h.fin hw
end
end Go.Proofs.YtpamoleocjdjiaaDoor.W
