/- Steps of a proof, one behind another: What the rows of a built tree are for the law: squares, keys, the rows' points. The walk of FnTvBuilt: it answers true, and what came in is as it was. Conditions: seeds below 2^64. FnTvBuilt answers true, and what came in is as it was. Conditions: seeds below 2^64. Conditions: as each theorem says. -/
import Derived.Test.YtpamoleocjdjiaaDoorMv11
import Derived.Deep.RegionHeld3
import Derived.Deep.DeepCutAuto
import Derived.IntWalk

namespace Go.Proofs.YtpamoleocjdjiaaDoor
open Go.RowKit Lox
set_option linter.unusedVariables false

theorem sqx_self (xs : List Nat) : ∀ k, sqx xs xs k = 0 := by
  intro k
  induction k with
  | zero => rfl
  | succ k ih => simp only [sqx, ih]; simp

theorem sqx_same {xs ys : List Nat} : ∀ {k : Nat}, sqx xs ys k = 0 → ∀ j, j < k → zi (xs.getD j 0) = zi (ys.getD j 0) := by
  intro k
  induction k with
  | zero => intro _ j hj; omega
  | succ k ih =>
    intro h j hj
    simp only [sqx] at h
    have h1 := sqx_nn xs ys k
    have h2 : 0 ≤ (zi (xs.getD k 0) - zi (ys.getD k 0)) * (zi (xs.getD k 0) - zi (ys.getD k 0)) := by
      have := Int.natAbs_mul_self (a := zi (xs.getD k 0) - zi (ys.getD k 0))
      omega
    by_cases hjk : j = k
    · subst hjk
      have h3 : (zi (xs.getD j 0) - zi (ys.getD j 0)) * (zi (xs.getD j 0) - zi (ys.getD j 0)) = 0 := by omega
      rcases Int.mul_eq_zero.1 h3 with h4 | h4 <;> omega
    · exact ih (by omega) j (by omega)

theorem key_getD {p q : TP} (h : p.key = q.key) (k : Nat) (hk : k < p.xs.length) : zi (p.xs.getD k 0) = zi (q.xs.getD k 0) := by
  unfold TP.key at h
  have hl := congrArg List.length h
  rw [List.length_map, List.length_map] at hl
  have h1 := congrArg (fun l => l[k]?) h
  simp only [List.getElem?_map] at h1
  rw [List.getElem?_eq_getElem hk, List.getElem?_eq_getElem (by omega)] at h1
  simp only [Option.map_some, Option.some.injEq] at h1
  rw [List.getD_eq_getElem?_getD, List.getD_eq_getElem?_getD, List.getElem?_eq_getElem hk, List.getElem?_eq_getElem (by omega)]
  exact h1

theorem sqx_cong {xs : List Nat} {p q : TP} (h : p.key = q.key) : ∀ k, k ≤ p.xs.length → sqx xs p.xs k = sqx xs q.xs k := by
  intro k
  induction k with
  | zero => intro _; rfl
  | succ k ih => intro hk; simp only [sqx, ih (by omega), key_getD h k (by omega)]

theorem sqs_vsq (dims : Nat) : VB.Sqs (fun p : TP => p.xs.length = dims ∧ p.Gr) TP.key (vsq dims) where
  self := fun a _ => sqx_self _ _
  pos := fun a b _ _ => sqx_nn _ _ _
  same := fun a b ha hb h => by
    unfold TP.key
    apply List.ext_getElem
    · rw [List.length_map, List.length_map, ha.1, hb.1]
    · intro i h1 h2
      rw [List.length_map] at h1 h2
      have := sqx_same h i (by rw [← ha.1]; exact h1)
      rw [List.getD_eq_getElem?_getD, List.getD_eq_getElem?_getD, List.getElem?_eq_getElem h1, List.getElem?_eq_getElem h2] at this
      simpa using this
  cong := fun a b c _ hb _ h => sqx_cong h dims (by rw [hb.1]; exact Nat.le_refl _)

/-- The least of numbers in order is the first. -/
theorem least_first {ws : List Nat} {ns : List Int} {s : Int} (hu : Up ws) (hg : ∀ y ∈ ws, Gn y) (hp : (ws.map zv).Perm ns) (hs : s ∈ ns) (hle : ∀ x ∈ ns, s ≤ x) : ∃ r, ws[0]? = some r ∧ Gd 0 r s := by
  cases ws with
  | nil => have := hp.length_eq; cases ns with
    | nil => cases hs
    | cons a l => simp at this
  | cons r ws =>
    refine ⟨r, rfl, ?_⟩
    have h1 : s ≤ zv r := hle _ (hp.mem_iff.1 (by simp))
    have h2 : zv r ≤ s := by
      obtain ⟨y, hy, e⟩ := List.mem_map.1 (hp.mem_iff.2 hs)
      rcases List.mem_cons.1 hy with rfl | hy
      · omega
      · have := (List.pairwise_cons.1 hu).1 y hy
        omega
    have h3 := zv_gd (hg r (by simp))
    rw [show s = zv r by omega]
    exact h3

theorem dst_sym {dims r : Nat} {p q : TP} (h : Dst r (vsq dims p q)) : Dst r (sqx q.xs p.xs dims) := by rw [sqx_comm]; exact h

/-- The rows of a tree that VBuild made of points. -/
structure GV (B : Nat) (w : World) (dims n : Nat) (A : Option Addr) (c : Nat) (rs : List VR) (ps : List TP) : Prop where
  ks : VS B w dims (.slice A n c) rs
  len : rs.length = n
  root : ∃ vt : VT, vt.count = n ∧ VSeg rs vt 0 ∧ (∀ p ∈ vt.pts, p.xs.length = dims ∧ p.Gr) ∧ vt.T.Each (VB.NodeOk (vsq dims)) ∧ (vt.pts.map TP.key).Perm (ps.map TP.key)

theorem keys_of {ps qs : List TP} (h : qs.map TP.xs = ps.map TP.xs) : qs.map TP.key = ps.map TP.key := by
  have := congrArg (List.map (List.map zi)) h
  rw [List.map_map, List.map_map] at this
  exact this

theorem gv_of {dims n : Nat} {ps : List TP} {w w' : World} {e : Ending} (hl : ps.length = n) (hps : ∀ p ∈ ps, p.xs.length = dims ∧ p.Gr) (h : VbTold dims n ps w e w') : ∃ A c rs, e = .returned (.tuple #[.slice A n c, .int .i64 (n : Int), .bool true]) ∧ GV w.heap.size w' dims n A c rs ps ∧ Mod (fun _ => False) w w' := by
  obtain ⟨v, rs, vt, qs, rfl, k1, k2, k3, k4, k5, ⟨A, c, rfl⟩⟩ := h
  have hqs : ∀ q ∈ qs, q.xs.length = dims ∧ q.Gr := by
    intro q hq
    have : q.xs ∈ ps.map TP.xs := by rw [← k4]; exact List.mem_map_of_mem hq
    obtain ⟨p, hp, e⟩ := List.mem_map.1 this
    obtain ⟨a1, a2⟩ := hps p hp
    exact ⟨by rw [← e]; exact a1, by unfold TP.Gr TP.n at *; rw [← e]; exact a2⟩
  have hql : qs.length = n := by have := congrArg List.length k4; rw [List.length_map, List.length_map] at this; omega
  have hpts : ∀ p ∈ vt.pts, p.xs.length = dims ∧ p.Gr := fun p hp => hqs p (VB.built_mem k3 p (by rw [← VT.pts_all]; exact hp))
  have hc : vt.count = n := by rw [← VT.count_pts, VT.pts_all, VB.built_count k3, hql]
  have hr : rs.length = n := by have := congrArg List.length k2; rw [List.length_map, VT.flat_len] at this; omega
  refine ⟨A, c, rs, by rw [hr], ⟨by rw [← hr]; exact k1, hr, vt, hc, vseg_root k2, hpts, VB.built_nodes (sqs_vsq dims) k3 hqs (fun a ha => hpts a (by rw [VT.pts_all]; exact ha)), ?_⟩, k5⟩
  rw [← keys_of k4, VT.pts_all]
  exact VB.built_pts (sqs_vsq dims) k3 hqs
end Go.Proofs.YtpamoleocjdjiaaDoor
namespace Go.Proofs.YtpamoleocjdjiaaDoor.W
open Go.RowKit Lox
set_option linter.unusedVariables false

theorem ord_ids {s : SH} {k : Nat} (h : k ∈ s.ord) : k ∈ s.ids := by
  induction s with
  | nil => cases h
  | node j l r ihl ihr =>
    simp only [SH.ord, List.mem_append, List.mem_cons] at h
    simp only [SH.ids, List.mem_append, List.mem_cons]
    rcases h with h | h | h
    · exact .inr (.inl (ihl h))
    · exact .inl h
    · exact .inr (.inr (ihr h))

/-- VBelow over the rows of a tree, from a place whose shape is known. -/
theorem vbelow_at {B dims n c : Nat} {A : Option Addr} {rs : List VR} {w : World} (hK : VS B w dims (.slice A n c) rs) (hn : rs.length = n) (hn2 : n ≤ 2147483647) (hd : dims ≤ 1099511627776) (t : VT) (i : Nat) (I above : Int) (hI : I = t.at i) (hS : VSeg rs t i) (ha : above < i) (ha2 : -1 ≤ above) (hc : t.count ≤ n) :
    Calls Tryd.prog 11 #[.slice A n c, .int .i64 I] w fun e w' => ∃ X cX, e = .returned (.slice X t.count cX) ∧ PRows w' X t.count (ptsAt rs (VT.sh t i)) dims ∧ Mod (fun _ => False) w w' := by
  subst hI
  have hat := sh_at hn t i above hS ha
  refine (below_at A c n (rs.map vnOf) (by rw [List.length_map, hn]) hn2 (VT.sh t i) _ above w hat ha2 (by rw [VT.sh_ord_len]; omega) (vnodes_of hK hd (by omega))).mono ?_
  rintro e w' ⟨v, rfl, ho, hm⟩
  obtain ⟨X, cX, rfl, hcX, hsX⟩ := own_form ho
  have hp := prows_of (w := w) (n := n) (c := c) (A := A) (v := .slice A n c) (fun k hk => by rw [hn]; exact SH.at_lt _ hat k (ord_ids hk)) (hK.mod hm) hsX hd
  rw [VT.sh_ord_len] at hp ⊢
  exact ⟨X, cX, rfl, hp, hm⟩
end Go.Proofs.YtpamoleocjdjiaaDoor.W

namespace Go.Proofs.YtpamoleocjdjiaaDoor
open Go.RowKit Lox Go.Proofs.YtpamoleocjdjiaaDoor.W
set_option linter.unusedVariables false
attribute [local go_sem] run_store_flt run_store_fn

/-- The law answers true, and nothing that was there has turned. -/
def TvYes (w : World) (e : Ending) (w' : World) : Prop := e = .returned (.bool true) ∧ Mod (fun _ => False) w w'

/-- What the guards let in. -/
def VGood (ps : List TP) (nq n : Nat) : Prop := (∀ p ∈ ps, p.xs.length = nq ∧ p.Gr) ∧ 0 < nq ∧ nq ≤ 4 ∧ n ≤ 120

theorem vgood_of {ps : List TP} {O : Option Addr} {c n nq : Nat} {b : Bool} (hn : ps.length = n) (h0 : 0 < n) (h : b = true → (∀ x ∈ ([⟨O, c, ps⟩] : List RR), (∀ p ∈ x.ps, (p.xs.length : Int) = (nq : Int) ∧ ∀ y ∈ p.xs, ∃ n, Wh y n) ∧ (0 : Int) < nq) ∧ (nq : Int) ≤ 4 ∧ many [⟨O, c, ps⟩] ≤ 120 ∧ ([] : List Int).length ≤ 80 ∧ ∀ k ∈ ([] : List Int), 0 ≤ k) : b = true → VGood ps nq n := by
  intro hb
  obtain ⟨h1, h2, h3, _⟩ := h hb
  obtain ⟨h4, h5⟩ := h1 _ (List.mem_singleton.2 rfl)
  refine ⟨fun p hp => ⟨by have := (h4 p hp).1; omega, TP.gr_iff.2 (h4 p hp).2⟩, by omega, by omega, ?_⟩
  simp only [many, List.map_cons, List.map_nil, List.sum_cons, List.sum_nil] at h3
  omega

theorem GV.mod {B dims n c : Nat} {A : Option Addr} {rs : List VR} {ps : List TP} {w w' : World} (h : GV B w dims n A c rs ps) (hm : Mod (fun _ => False) w w') : GV B w' dims n A c rs ps := ⟨h.ks.mod hm, h.len, h.root⟩

theorem GV.walked {B dims n c : Nat} {A : Option Addr} {rs : List VR} {ps : List TP} {w : World} {b : Bool} (h : GV B w dims n A c rs ps) (h0 : 0 < n) (hy : ∀ s : SH, s.At (VC (rs.map vnOf)) (VF (rs.map vnOf)) n 0 (-1) → s.ids.Nodup → s.ids.length = n → b = true) : b = true := by
  obtain ⟨vt, hc, hS, -, -, -⟩ := h.root
  have hat := sh_at h.len vt 0 (-1) hS (by omega)
  rw [at_zero (by omega)] at hat
  exact hy _ hat (VT.sh_ids vt 0).1.1 (by rw [(VT.sh_ids vt 0).1.2, hc])

theorem GV.below0 {B dims n c : Nat} {A : Option Addr} {rs : List VR} {ps : List TP} {w W : World} (h : GV B w dims n A c rs ps) (hm : Mod (fun _ => False) w W) (h0 : 0 < n) (hn2 : n ≤ 2147483647) (hd : dims ≤ 4) :
    Calls Tryd.prog 11 #[.slice A n c, .int .i64 0] W fun e w' => ∃ X cX gs, e = .returned (.slice X n cX) ∧ PRows w' X n gs dims ∧ ((∀ p ∈ gs, p.Gr) ∧ ∀ κ, (gs.map TP.key).count κ ≤ (ps.map TP.key).count κ) ∧ Mod (fun _ => False) W w' := by
  obtain ⟨vt, hc, hS, hp, -, hk⟩ := h.root
  have hpts : (ptsAt rs (VT.sh vt 0)).map TP.xs = vt.pts.map TP.xs := by
    have h1 := VT.sh_pts vt 0 hS
    unfold ptsAt
    rw [List.map_map]
    have h2 : (VT.sh vt 0).ord.map (fun k => some (TP.xs (((rs[k]?).map VR.p).getD ⟨none, 0, []⟩))) = vt.pts.map fun p => some p.xs := by
      rw [← h1]
      refine List.map_congr_left fun k hk => ?_
      obtain ⟨y, hy, _⟩ := VT.sh_mem hS hk
      rw [hy]
      rfl
    have h3 := congrArg (List.map (fun o : Option (List Nat) => o.getD [])) h2
    rw [List.map_map, List.map_map] at h3
    exact h3
  refine (vbelow_at (h.ks.mod hm) h.len hn2 (by omega) vt 0 0 (-1) (at_zero (by omega)).symm hS (by omega) (by omega) (by omega)).mono ?_
  rintro e w' ⟨X, cX, rfl, hX, hm'⟩
  rw [hc] at hX ⊢
  refine ⟨X, cX, _, rfl, hX, ⟨fun p hp' => ?_, fun κ => ?_⟩, hm'⟩
  · have : p.xs ∈ vt.pts.map TP.xs := by rw [← hpts]; exact List.mem_map_of_mem hp'
    obtain ⟨q, hq, e⟩ := List.mem_map.1 this
    have hg := (hp q hq).2
    unfold TP.Gr TP.n at *
    rw [← e]
    exact hg
  · rw [keys_of hpts, hk.count_eq]
    exact Nat.le_refl _

theorem GV.row {B dims n c k : Nat} {A : Option Addr} {rs : List VR} {ps : List TP} {w : World} (h : GV B w dims n A c rs ps) (hk : k < n) : ∃ y, rs[k]? = some y ∧ y.p.xs.length = dims ∧ y.p.Gr ∧ ∃ (tl tr : VT), VSeg rs tl (k + 1) ∧ VSeg rs tr (k + 1 + tl.count) ∧ y.l = tl.at (k + 1) ∧ y.r = tr.at (k + 1 + tl.count) ∧ tl.count + tr.count + 1 ≤ n ∧ RowOk rs dims y (VT.sh tl (k + 1)) (VT.sh tr (k + 1 + tl.count)) := by
  obtain ⟨vt, hc, hS, hp, he, -⟩ := h.root
  have hl := h.len
  have hy : rs[k]? = some (rs[k]'(by omega)) := List.getElem?_eq_getElem _
  obtain ⟨a1, a2, tl, tr, a3, a4, a5, a6, a7, a8⟩ := VT.sh_node vt 0 hS hp he k _ (by omega) (by omega) hy
  exact ⟨_, hy, a1, a2, tl, tr, a3, a4, a5, a6, by omega, a8⟩

theorem GV.grow {B dims n c i : Nat} {A : Option Addr} {rs : List VR} {ps : List TP} {w : World} {t : VT} (h : GV B w dims n A c rs ps) (hS : VSeg rs t i) : ∀ p ∈ ptsAt rs (VT.sh t i), p.Gr := by
  intro p hp
  obtain ⟨k, hk, rfl⟩ := List.mem_map.1 hp
  obtain ⟨y, hy, _⟩ := VT.sh_mem hS hk
  have hkn : k < n := by have := (List.getElem?_eq_some_iff.1 hy).1; have := h.len; omega
  obtain ⟨y', hy', _, hg, _⟩ := h.row hkn
  rw [hy] at hy'
  cases hy'
  rw [hy]
  exact hg

/-- What holds at a row, by the lists of points. -/
def RowOk2 (dims : Nat) (y : VR) (n1 n2 : Nat) (L1 L2 : List TP) : Prop :=
  (n1 + n2 = 0 → y.rd = 0) ∧ (0 < n1 + n2 → n2 = (1 + n1 + n2) - (1 + n1 + n2) / 2 ∧ ∃ s, Dst y.rd s ∧ s ∈ L2.map (fun p => sqx p.xs y.p.xs dims) ∧ (∀ x ∈ L2.map (fun p => sqx p.xs y.p.xs dims), s ≤ x) ∧ ∀ p ∈ L1, sqx p.xs y.p.xs dims ≤ s)

theorem row2_of {rs : List VR} {dims n1 n2 i j : Nat} {y : VR} {tl tr : VT} (h1 : n1 = tl.count) (h2 : n2 = tr.count) (h : RowOk rs dims y (VT.sh tl i) (VT.sh tr j)) : RowOk2 dims y n1 n2 (ptsAt rs (VT.sh tl i)) (ptsAt rs (VT.sh tr j)) := by
  subst h1 h2
  obtain ⟨a1, a2⟩ := h
  rw [VT.sh_ord_len, VT.sh_ord_len] at a1 a2
  refine ⟨fun h0 => a1 (by omega), fun h0 => ?_⟩
  obtain ⟨b1, s, b2, ⟨j1, hj1, z, hz, ez⟩, b3, b4⟩ := a2 (by omega)
  have pt : ∀ {k : Nat} {z : VR}, rs[k]? = some z → ((rs[k]?).map VR.p).getD ⟨none, 0, []⟩ = z.p := fun h => by rw [h]; rfl
  refine ⟨b1, s, b2, ?_, fun x hx => ?_, fun p hp => ?_⟩
  · refine List.mem_map.2 ⟨z.p, List.mem_map.2 ⟨j1, hj1, pt hz⟩, ?_⟩
    rw [sqx_comm]; exact ez
  · obtain ⟨p, hp, rfl⟩ := List.mem_map.1 hx
    obtain ⟨k, hk, rfl⟩ := List.mem_map.1 hp
    obtain ⟨z, hz, ez⟩ := b3 k hk
    rw [pt hz, sqx_comm]; exact ez
  · obtain ⟨k, hk, rfl⟩ := List.mem_map.1 hp
    obtain ⟨z, hz, ez⟩ := b4 k hk
    rw [pt hz, sqx_comm]; exact ez

theorem vrow_cells {w : World} {G : Nat} {a b c d : Value} (h : Blk w G 37 [a, b, c, d]) : w.cell? ⟨G, 0, none⟩ = some a ∧ w.cell? ⟨G, 1, none⟩ = some b ∧ w.cell? ⟨G, 2, none⟩ = some c ∧ w.cell? ⟨G, 3, none⟩ = some d ∧ ∀ i, w.frozen? ⟨G, i, none⟩ = false :=
  ⟨h.at (i := 0) rfl, h.at (i := 1) rfl, h.at (i := 2) rfl, h.at (i := 3) rfl, fun i => h.frozen i⟩

theorem row_bd {w W : World} {X : Option Addr} {m dims : Nat} {L : List TP} {p : TP} (h : PRows w X m L dims) (hg : ∀ x ∈ L, x.Gr) (hp : p.Ok W dims) (gp : p.Gr) (hd : dims ≤ 4) : ∀ x ∈ L, 0 ≤ sqx x.xs p.xs dims ∧ sqx x.xs p.xs dims ≤ 33554432 := by
  intro x hx
  exact ⟨sqx_nn _ _ _, sqx_le10 x.xs p.xs (TP.gr_iff.1 (hg x hx)) (TP.gr_iff.1 gp) dims (by have := (h.2 x hx).2; omega) (by have := hp.1; omega) hd⟩

theorem abs_at' (w : World) (x y : Nat) (h : y = x % 9223372036854775808) : Calls Tryd.prog 12 #[.float .f64 x] w fun e w' => e = .returned (.float .f64 y) ∧ w = w' := by
  rw [h]; exact abs_at w x

/-- The root of the least square is near the radius. -/
theorem first_root {w : World} {V : Option Addr} {n2 rd : Nat} {ws : List Nat} {ns : List Int} {s : Int} (h0 : 0 < n2) (hV : Sl w V n2 1 (flts ws)) (hu : Up ws) (hg : ∀ y ∈ ws, Gn y) (hp : (ws.map zv).Perm ns) (hs : s ∈ ns) (hle : ∀ x ∈ ns, s ≤ x) (b0 : 0 ≤ s) (b1 : s ≤ 33554432) (hr : Dst rd s) :
    ∃ r0 r1 dd am vb vo, V = some ⟨vb, vo, none⟩ ∧ w.cell? ⟨vb, vo, none⟩ = some (.float .f64 r0) ∧ Ieee.double.sqrt r0 = some r1 ∧ (∀ (P : Program) (T : TypeId) (w : World), (binOp .sub T (.float .f64 r1) (.float .f64 rd)).run P w = .ok (.float .f64 dd) w) ∧ am = dd % 9223372036854775808 ∧ (FloatKind.f64.format.order am 4472074429978902528 == some .lt) = true := by
  obtain ⟨r0, hr0, hg0⟩ := least_first hu hg hp hs hle
  obtain ⟨vb, vo, rfl, hc⟩ := hV.2 h0
  obtain ⟨r1, hq, hd⟩ := dst_of hg0 b0 b1
  obtain ⟨dd, hsub, hlt⟩ := near_words hd hr b1 b0
  exact ⟨r0, r1, dd, _, vb, vo, rfl, hc 0 _ (flts_at hr0), hq, fun P T w => run_float_arith w .sub T .f64 _ _ dd hsub, rfl, hlt⟩

/-- The root of a closer one's square is not above the radius, but for the bound. -/
theorem closer_root {rd : Nat} {s s' : Int} (hr : Dst rd s) (hle : s' ≤ s) (b1 : s ≤ 33554432) (b0 : 0 ≤ s') : ∃ u, (∀ (P : Program) (T : TypeId) (w : World), (binOp .add T (.float .f64 rd) (.float .f64 4472074429978902528)).run P w = .ok (.float .f64 u) w) ∧
    ∀ r0, Gd 0 r0 s' → ∃ r1, Ieee.double.sqrt r0 = some r1 ∧ (FloatKind.f64.format.order r1 u == some .lt) = true := by
  have hb := b0
  obtain ⟨u, hu, _⟩ := under_words hr hr (Int.le_refl _) b1 (by omega)
  refine ⟨u, fun P T w => run_float_arith w .add T .f64 _ _ u hu, fun r0 hg => ?_⟩
  obtain ⟨r1, hq, hd⟩ := dst_of hg b0 (by omega)
  obtain ⟨u', hu', hlt⟩ := under_words hd hr hle b1 b0
  rw [hu] at hu'
  cases hu'
  exact ⟨r1, hq, hlt⟩

set_option maxHeartbeats 2000000 in
theorem tvbuilt_none (O : Option Addr) (c one two : Nat) (w : World) (h : (RR.mk O c []).Ok w) :
    Calls Tryd.prog 3 #[.slice O 0 c, .int .u64 one, .int .u64 two] w (TvYes w) := by
  have FX : Hid (Calls Tryd.prog 6 #[.slice O 0 c] w (FitsTold ⟨O, c, []⟩ w)) := fits4_any ⟨O, c, []⟩ w h
  clear h
  go_enter Tryd.func3, Tryd.ntmps3
  go_wp2_with (go_at_call 6; refine FX.out.mono ?_; rintro _ w1 ⟨b1, rfl, rfl, -⟩)
  all_goals
    go_ret
    exact ⟨rfl, Mod.refl _ _⟩

set_option maxRecDepth 100000 in
set_option maxHeartbeats 8000000 in
theorem tvbuilt_some (O : Option Addr) (n c one two nq : Nat) (ps : List TP) (p0 : TP) (w : World) (h : (RR.mk O c ps).Ok w) (hn : ps.length = n) (h0 : 0 < n) (hp0 : ps[0]? = some p0) (hq : p0.xs.length = nq) (hnb : n ≤ 2147483647 ∧ nq ≤ 2147483647) (h1 : one < 18446744073709551616) (h2 : two < 18446744073709551616) :
    Calls Tryd.prog 3 #[.slice O n c, .int .u64 one, .int .u64 two] w (TvYes w) := by
  have FX : Hid (Calls Tryd.prog 6 #[.slice O n c] w (FitsTold ⟨O, c, ps⟩ w)) := by
    show Calls _ _ _ _ _
    rw [← hn]
    exact fits4_any ⟨O, c, ps⟩ w h
  obtain ⟨hsl, hrd, hlen⟩ := h
  simp only at hsl hrd hlen
  rw [hn] at hsl
  obtain ⟨b0, o0, eO, hcO⟩ := hsl.2 h0
  subst eO
  have cp0 : w.cell? ⟨b0, o0, none⟩ = some (.slice p0.A nq p0.c) := by
    have := hcO 0 p0.v (by rw [List.getElem?_map, hp0]; rfl)
    unfold TP.v at this
    rw [hq] at this
    exact this
  have SM : Hid (Calls Tryd.prog 7 #[.int .i64 (nq : Int), .float .f64 4652218415073722368, .slice none 0 0, .slice (some ⟨w.heap.size, 0, none⟩) 1 1] (w.alloc (.cells #[.slice (some ⟨b0, o0, none⟩) n c] 22)) fun e w' => (w.alloc (.cells #[.slice (some ⟨b0, o0, none⟩) n c] 22)) = w' ∧ ∃ b, e = .returned (.bool b) ∧ (b = true → VGood ps nq n)) := by
    have hmod : Mod (fun _ => False) w (w.alloc (.cells #[.slice (some ⟨b0, o0, none⟩) n c] 22)) := (Mod.refl _ _).alloc _
    have hb := Blk.new' w #[.slice (some ⟨b0, o0, none⟩) n c] 22
    refine (some_at (some ⟨w.heap.size, 0, none⟩) none 1 1 0 0 (nq : Int) [⟨some ⟨b0, o0, none⟩, c, ps⟩] [] _ ⟨rfl, fun _ => ⟨_, _, rfl, fun j v hv => ?_⟩⟩ (by omega) (fun x hx => ?_) ⟨rfl, fun h => by omega⟩ (by omega)).mono ?_
    · cases j with
      | zero =>
        simp only [List.map_cons, List.map_nil, List.getElem?_cons_zero, Option.some.injEq] at hv
        subst hv
        show _ = some (Value.slice _ ps.length c)
        rw [hn]
        exact hb.at (i := 0) rfl
      | succ j => simp at hv
    · rw [List.mem_singleton.1 hx]
      exact ⟨⟨by show Sl _ _ ps.length 1 _; rw [hn]; exact hsl.mod hmod, fun p hp => (hrd p hp).mod hmod, hlen⟩, by show ps.length ≤ _; omega⟩
    · rintro e w' ⟨hw, b, he, hb⟩
      exact ⟨hw, b, he, vgood_of (O := some ⟨b0, o0, none⟩) (c := c) hn h0 hb⟩
  have VBF : Hid (∀ W : World, Mod (fun _ => False) w W → VGood ps nq n → Calls Tryd.prog 8 #[.slice (some ⟨b0, o0, none⟩) n c, .int .u64 (one : Int), .int .u64 (two : Int)] W (fun e w' => ∃ A5 c5 rs, e = .returned (.tuple #[.slice A5 n c5, .int .i64 (n : Int), .bool true]) ∧ GV W.heap.size w' nq n A5 c5 rs ps ∧ Mod (fun _ => False) W w')) := by
    intro W hW hg
    refine (vbuild2_at _ n c nq one two ps W ⟨hsl.mod hW, fun p hp => ⟨(hrd p hp).mod hW, (hg.1 p hp).1⟩⟩ (fun p hp => (hg.1 p hp).2) ⟨h0, by have := hg.2.2.2; omega⟩ ⟨hg.2.1, hg.2.2.1⟩ h1 h2).mono fun e w' hv => gv_of hn hg.1 hv
  have HP : Hid (Sl w (some ⟨b0, o0, none⟩) n 1 (ps.map TP.v) ∧ ∀ p ∈ ps, p.Rd w) := ⟨hsl, hrd⟩
  have hn0 : ((n : Int) == 0) = false := by
    have : (n : Int) ≠ 0 := by omega
    simpa using this
  have hz : (0 : Int) < n := by omega
  clear hsl hrd hlen hcO hp0 hq hn h1 h2
  go_enter Tryd.func3, Tryd.ntmps3
  go_upto_if 35 with (first | (go_at_call 6; refine FX.out.mono ?_; rintro _ w1 ⟨b1, rfl, rfl, -⟩) | (go_at_call 7; refine SM.out.mono ?_; rintro _ w4 ⟨rfl, b3, rfl, hb3⟩; have HB3 := Lib.hid hb3; clear hb3))
  all_goals first
    | (go_ret; exact ⟨rfl, Mod.refl _ _⟩)
    | skip
  cases b3 with
  | false =>
    go_wp2_with fail
    go_ret
    exact ⟨rfl, (Mod.refl _ _).alloc _⟩
  | true =>
    have HG := Lib.hid (HB3.out rfl)
    go_upto_if 68 with (first
      | (go_at_call 8; refine (VBF.out _ ((Mod.refl _ _).alloc _) HG.out).mono ?_; rintro _ w5 ⟨A5, c5, rs, rfl, hV, hm5⟩; obtain ⟨g5, cap5, e5, -, -⟩ := hV.ks.own.form (by rw [hV.len]; exact h0); injection e5 with e5 e6 e7; subst e5 e7; have HV := Lib.hid (And.intro hV (((Mod.refl (fun _ => False) w).alloc (.cells #[.slice (some ⟨b0, o0, none⟩) n c] 22)).trans hm5)); clear hV hm5 e6)
      | (go_at_call 9; refine (vwalk_at (some ⟨g5, 0, none⟩) c5 n (rs.map vnOf) w5 (by rw [List.length_map, HV.out.1.len]) h0 (by omega) (vnodes_of HV.out.1.ks (by have := HG.out.2.2.1; omega) (by rw [HV.out.1.len]; omega))).mono ?_; rintro _ w6 ⟨A1, c1, m, A2, c2, os, ds, b, rfl, hm6, -, -, -, hy⟩; obtain rfl := HV.out.1.walked h0 (hy h0); have H6 := Lib.hid hm6; clear hm6 hy)
      | (go_at_call 11; refine (HV.out.1.below0 H6.out h0 (by omega) HG.out.2.2.1).mono ?_; rintro _ w7 ⟨X, cX, gs, rfl, hX, hgs, hm7⟩; have H7 := Lib.hid (And.intro hX (And.intro hgs hm7)); clear hX hgs hm7)
      | (go_at_call 10; refine (samepts_at X (some ⟨b0, o0, none⟩) n cX c nq gs ps w7 H7.out.1 ⟨HP.out.1.mod (HV.out.2.trans (H6.out.trans H7.out.2.2)), fun p hp => ⟨(HP.out.2 p hp).mod (HV.out.2.trans (H6.out.trans H7.out.2.2)), (HG.out.1 p hp).1⟩⟩ H7.out.2.1.1 (fun p hp => (HG.out.1 p hp).2) (by omega) (by have := HG.out.2.2.1; omega) H7.out.2.1.2).mono ?_; rintro _ w8 ⟨rfl, hm8⟩; have H8 := Lib.hid hm8; clear hm8))
    have hw58 : Mod (fun _ => False) w5 w8 := H6.out.trans (H7.out.2.2.trans H8.out)
    have HW8 := Lib.hid (And.intro (HV.out.1.mod hw58) (HV.out.2.trans hw58))
    clear hw58
    go_wp2_with fail
    go_loopw [71] (fun i wr => ∃ k : Nat, k ≤ n ∧ i = .int .i64 k ∧ Hid (Mod (fun _ => False) w8 wr)) (fun i _ => n - (intOf i).toNat)
    case atStart => exact ⟨0, Nat.zero_le _, rfl, Mod.refl _ _⟩
    case round =>
      obtain ⟨k, hk, rfl, HR⟩ := hrel
      by_cases hlt : k < n
      · obtain ⟨y, hy, hyl, hyg, tl, tr, s1, s2, e1, e2, hcnt, hrow⟩ := HW8.out.1.row hlt
        have hVr := HW8.out.1.mod HR.out
        have q0 : wr.cell? ⟨g5, k * 4, none⟩ = some (.slice y.p.A nq y.p.c) := by
          have := (hVr.ks.cell hVr.len.symm hy (j := 0) (by omega)).1
          rw [← hyl]; exact this
        have q1 : wr.cell? ⟨g5, k * 4 + 1, none⟩ = some (.float .f64 y.rd) := (hVr.ks.cell hVr.len.symm hy (j := 1) (by omega)).1
        have q2 : wr.cell? ⟨g5, k * 4 + 2, none⟩ = some (.int .i64 y.l) := (hVr.ks.cell hVr.len.symm hy (j := 2) (by omega)).1
        have q3 : wr.cell? ⟨g5, k * 4 + 3, none⟩ = some (.int .i64 y.r) := (hVr.ks.cell hVr.len.symm hy (j := 3) (by omega)).1
        have i0' : (0 : Int) ≤ k := by omega
        have i1' : (k : Int) < n := by omega
        obtain ⟨W1, eW1⟩ : ∃ W1, W1 = wr.alloc (.cells #[.slice y.p.A nq y.p.c, .float .f64 y.rd, .int .i64 y.l, .int .i64 y.r] 37) := ⟨_, rfl⟩
        have hb1 : Blk W1 wr.heap.size 37 [.slice y.p.A nq y.p.c, .float .f64 y.rd, .int .i64 y.l, .int .i64 y.r] := by rw [eW1]; exact Blk.new' _ _ _
        have hm1 : Mod (fun _ => False) wr W1 := by rw [eW1]; exact (Mod.refl _ _).alloc _
        have HE := Lib.hid (And.intro eW1 (And.intro hb1 hm1))
        obtain ⟨n1, hn1⟩ : ∃ n1, n1 = tl.count := ⟨_, rfl⟩
        obtain ⟨n2, hn2⟩ : ∃ n2, n2 = tr.count := ⟨_, rfl⟩
        have hB1 : ∀ W, Mod (fun _ => False) W1 W → Calls Tryd.prog 11 #[.slice (some ⟨g5, 0, none⟩) n c5, .int .i64 y.l] W fun e w' => ∃ X cX, e = .returned (.slice X n1 cX) ∧ PRows w' X n1 (ptsAt rs (VT.sh tl (k + 1))) nq ∧ Mod (fun _ => False) W w' := fun W hm => by
          rw [hn1]
          exact vbelow_at ((hVr.mod hm1).mod hm).ks hVr.len (by omega) (by have := HG.out.2.2.1; omega) tl (k + 1) y.l k e1 s1 (by omega) (by omega) (by omega)
        have hB2 : ∀ W, Mod (fun _ => False) W1 W → Calls Tryd.prog 11 #[.slice (some ⟨g5, 0, none⟩) n c5, .int .i64 y.r] W fun e w' => ∃ X cX, e = .returned (.slice X n2 cX) ∧ PRows w' X n2 (ptsAt rs (VT.sh tr (k + 1 + tl.count))) nq ∧ Mod (fun _ => False) W w' := fun W hm => by
          rw [hn2]
          exact vbelow_at ((hVr.mod hm1).mod hm).ks hVr.len (by omega) (by have := HG.out.2.2.1; omega) tr (k + 1 + tl.count) y.r k e2 s2 (by omega) (by omega) (by omega)
        have hyo := (hVr.ks.ok y (List.mem_of_getElem? hy)).1
        have hro : RowOk2 nq y n1 n2 (ptsAt rs (VT.sh tl (k + 1))) (ptsAt rs (VT.sh tr (k + 1 + tl.count))) := row2_of hn1 hn2 hrow
        have hgp1 : ∀ p ∈ ptsAt rs (VT.sh tl (k + 1)), p.Gr := HW8.out.1.grow s1
        have hgp2 : ∀ p ∈ ptsAt rs (VT.sh tr (k + 1 + tl.count)), p.Gr := HW8.out.1.grow s2
        generalize ptsAt rs (VT.sh tl (k + 1)) = L1 at hB1 hro hgp1
        generalize ptsAt rs (VT.sh tr (k + 1 + tl.count)) = L2 at hB2 hro hgp2
        have hnn : n1 + n2 + 1 ≤ n := by omega
        have HB := Lib.hid (And.intro hB1 hB2)
        have HRO := Lib.hid (And.intro hro (And.intro hgp1 (And.intro hgp2 (And.intro hyo hyg))))
        have HYL := Lib.hid hyl
        have hsz1 : W1.heap.size = wr.heap.size + 1 := by rw [eW1, World.size_alloc]
        clear hB1 hB2 hro hgp1 hgp2 hyo hrow hVr hy hyg s1 s2 e1 e2 hcnt hn1 hn2 eW1 hb1 hm1 hyl tl tr
        obtain ⟨p, rd, cl, fu⟩ := y
        simp only at q0 q1 q2 q3 HE HB HRO HYL
        go_upto_region 12 with fail
        rw [← HE.out.1]
        obtain ⟨G, hG⟩ : ∃ G, G = wr.heap.size := ⟨_, rfl⟩
        rw [← hG]
        have HBK : Hid (Blk W1 G 37 [.slice p.A nq p.c, .float .f64 rd, .int .i64 cl, .int .i64 fu] ∧ Mod (fun _ => False) wr W1) := by rw [hG]; exact HE.out.2
        clear HE hG q0 q1 q2 q3
        obtain ⟨x0, x1, x2, x3, xf⟩ := vrow_cells HBK.out.1
        have hGl := HBK.out.1.lt
        go_cut [15, 16] from 75 to 83 (fun v1 v2 wx => ∃ X1 d1 X2 d2, v1 = .slice X1 n1 d1 ∧ v2 = .slice X2 n2 d2 ∧ Hid (PRows wx X1 n1 L1 nq ∧ PRows wx X2 n2 L2 nq ∧ Mod (fun _ => False) W1 wx))
        case first =>
          have KEEP : Hid (∀ W : World, Mod (fun _ => False) W1 W → W.cell? ⟨G, 2, none⟩ = some (.int .i64 cl) ∧ W.cell? ⟨G, 3, none⟩ = some (.int .i64 fu)) := fun W hm => ⟨(hm.cell hGl (fun h => h)).trans x2, (hm.cell hGl (fun h => h)).trans x3⟩
          have tok1 : True := trivial
          go_region_held3 (fun w' => w'.cell? ⟨G, 2, none⟩ = some (.int .i64 cl) ∧ w'.cell? ⟨G, 3, none⟩ = some (.int .i64 fu)) (first | with_reducible exact KEEP.out _ (Mod.refl _ _).drew | with_reducible exact KEEP.out _ HM1.out | with_reducible exact KEEP.out _ HM2.out | with_reducible exact KEEP.out _ (Mod.refl _ _))
            (first
              | (go_at_call 11; have _t := tok1; clear _t tok1; refine (HB.out.1 _ (by first | with_reducible exact (Mod.refl _ _).drew | with_reducible exact Mod.refl _ _)).mono ?_; rintro _ wa ⟨X1, d1, rfl, ha, hma⟩; have hm1' : Mod (fun _ => False) W1 wa := (by first | with_reducible exact hma | with_reducible exact (Mod.refl _ _).drew.trans hma); have HM1 := Lib.hid hm1'; have HA1 := Lib.hid ha; clear hm1' ha hma)
              | (go_at_call 11; refine (HB.out.2 _ HM1.out).mono ?_; rintro _ wb ⟨X2, d2, rfl, hb, hmb⟩; have HM2 := Lib.hid (HM1.out.trans hmb); have HB2 := Lib.hid (And.intro (HA1.out.mod hmb) hb); clear hb hmb))
          all_goals
            go_wp2_with fail
            go_meet
            exact ⟨X1, d1, X2, d2, rfl, rfl, HB2.out.1, HB2.out.2, HM2.out⟩
        case rest =>
          obtain ⟨X1, d1, X2, d2, rfl, rfl, HC⟩ := hcut
          have z0 : wc.cell? ⟨G, 0, none⟩ = some (.slice p.A nq p.c) := (HC.out.2.2.cell hGl (fun h => h)).trans x0
          have z1 : wc.cell? ⟨G, 1, none⟩ = some (.float .f64 rd) := (HC.out.2.2.cell hGl (fun h => h)).trans x1
          have hGc : G < wc.heap.size := Nat.lt_of_lt_of_le hGl HC.out.2.2.size
          obtain ⟨N1, hN1e⟩ : ∃ N1, N1 = 1 + n1 := ⟨_, rfl⟩
          obtain ⟨M, hMe⟩ : ∃ M, M = N1 + n2 := ⟨_, rfl⟩
          have a1 : IntKind.i64.wrap ((1 : Int) + n1) = (N1 : Int) := by rw [IntWalk.i64_in _ (by omega)]; omega
          have a2 : IntKind.i64.wrap ((N1 : Int) + n2) = (M : Int) := by rw [IntWalk.i64_in _ (by omega)]; omega
          have HMN := Lib.hid (And.intro hN1e hMe)
          clear hN1e hMe
          have HMR := Lib.hid (HR.out.trans (HBK.out.2.trans HC.out.2.2))
          clear x0 x1 x2 x3 xf
          by_cases hz : n1 + n2 = 0
          · obtain rfl : n1 = 0 := by omega
            obtain rfl : n2 = 0 := by omega
            have hr0 : rd = 0 := HRO.out.1.1 rfl
            subst hr0
            obtain rfl : N1 = 1 := by have := HMN.out.1; omega
            obtain rfl : M = 1 := by have := HMN.out.2; omega
            go_wp2_with fail
            go_roundw
            case rel => exact ⟨k + 1, by omega, by go_num, HMR.out⟩
            case measure => simp [intOf]; omega
          · have hN1 : ((M : Int) == 1) = false := by
              have h1 := HMN.out
              have : (M : Int) ≠ 1 := by omega
              simpa using this
            obtain ⟨hn2e, s, hds, hs1, hs2, hs3⟩ := HRO.out.1.2 (by omega)
            have HS := Lib.hid (And.intro hds (And.intro hs1 (And.intro hs2 hs3)))
            have hMb : M ≤ 120 ∧ n2 = M - M / 2 ∧ 0 < M := by have h1 := HMN.out; have h2 := HG.out.2.2.2; omega
            have hq2 : ((n2 : Int) != (M : Int) - (M : Int) / 2) = false := by
              have : (n2 : Int) = (M : Int) - (M : Int) / 2 := by omega
              simpa using this
            have a3 : IntKind.i64.wrap ((M : Int) - (M : Int) / 2) = (M : Int) - (M : Int) / 2 := IntWalk.i64_in _ (by omega)
            have a4 : IntKind.i64.wrap ((M : Int) / 2) = (M : Int) / 2 := IntWalk.i64_in _ (by omega)
            clear hMb
            have hn2p : 0 < n2 := by omega
            have HE2 := Lib.hid hn2e
            clear hds hs1 hs2 hs3 hn2e
            go_upto_region 17 with fail
            have hpo : p.Ok wc nq := TP.Ok.mod0 (show p.Ok wr nq from HRO.out.2.2.2.1) (HBK.out.2.trans HC.out.2.2)
            have hbd2 := row_bd HC.out.2.1 HRO.out.2.2.1 hpo HRO.out.2.2.2.2 HG.out.2.2.1
            have hbd1 := row_bd HC.out.1 HRO.out.2.1 hpo HRO.out.2.2.2.2 HG.out.2.2.1
            have hsb : 0 ≤ s ∧ s ≤ 33554432 := by
              obtain ⟨x, hx, rfl⟩ := List.mem_map.1 HS.out.2.1
              exact hbd2 x hx
            have HPO := Lib.hid (And.intro hpo (And.intro hbd1 hsb))
            clear hpo hbd2 hbd1 hsb
            go_cut [115] from 94 to 115 (fun b wx => b = .bool false ∧ Hid (Mod (fun _ => False) wc wx))
            case first =>
              have KEEP : Hid (∀ W : World, Mod (fun _ => False) wc W → W.cell? ⟨G, 0, none⟩ = some (.slice p.A nq p.c) ∧ W.cell? ⟨G, 1, none⟩ = some (.float .f64 rd)) := fun W hm => ⟨(hm.cell hGc (fun h => h)).trans z0, (hm.cell hGc (fun h => h)).trans z1⟩
              refine wp_region_held_drew (S := fun w' => w'.cell? ⟨G, 0, none⟩ = some (.slice p.A nq p.c) ∧ w'.cell? ⟨G, 1, none⟩ = some (.float .f64 rd)) (by kernel_rfl) ?_ (fun hHeld => ?_)
              · exact KEEP.out _ (Mod.refl _ _).drew
              refine wpAnyH_take (i := 0) (oi := { dst := some 94, op := Op.move (Operand.tmp 16), type := 22, pos := "vantage.go:32", after := #[], guard := none }) (v := ?_) rfl (by kernel_rfl) (by kernel_rfl) (by kernel_rfl) (fun _ _ _ h => h) (Or.inl ⟨by rfl, ?_⟩) (by assumption) ?_
              rotate_left 1
              · intro w hSw; (try dsimp only at hSw); go_simp; (try with_reducible rfl)
              try simp only [Act.put, List.setIfInBounds_toArray, List.set_cons_zero, List.set_cons_succ]
              refine wpAnyH_take (i := 1) (oi := { dst := some 95, op := Op.call { callee := Callee.builtin Builtin.len, args := #[Operand.tmp 94], argTypes := #[22] }, type := 3, pos := "vantage.go:32", after := #[{ on := 0, ground := Ground.data }], guard := none }) (v := ?_) rfl (by kernel_rfl) (by kernel_rfl) (by kernel_rfl) (fun _ _ _ h => h) (Or.inl ⟨by rfl, ?_⟩) (by assumption) ?_
              rotate_left 1
              · intro w hSw; (try dsimp only at hSw); go_simp; (try with_reducible rfl)
              try simp only [Act.put, List.setIfInBounds_toArray, List.set_cons_zero, List.set_cons_succ]
              refine wpAnyH_take (i := 2) (oi := { dst := some 96, op := Op.move (Operand.tmp 17), type := 3, pos := "vantage.go:32", after := #[], guard := none }) (v := ?_) rfl (by kernel_rfl) (by kernel_rfl) (by kernel_rfl) (fun _ _ _ h => h) (Or.inl ⟨by rfl, ?_⟩) (by assumption) ?_
              rotate_left 1
              · intro w hSw; (try dsimp only at hSw); go_simp; (try with_reducible rfl)
              try simp only [Act.put, List.setIfInBounds_toArray, List.set_cons_zero, List.set_cons_succ]
              refine wpAnyH_take (i := 3) (oi := { dst := some 97, op := Op.move (Operand.tmp 17), type := 3, pos := "vantage.go:32", after := #[], guard := none }) (v := ?_) rfl (by kernel_rfl) (by kernel_rfl) (by kernel_rfl) (fun _ _ _ h => h) (Or.inl ⟨by rfl, ?_⟩) (by assumption) ?_
              rotate_left 1
              · intro w hSw; (try dsimp only at hSw); go_simp; (try with_reducible rfl)
              try simp only [Act.put, List.setIfInBounds_toArray, List.set_cons_zero, List.set_cons_succ]
              refine wpAnyH_take (i := 4) (oi := { dst := some 98, op := Op.binOp BinOp.quo 3 (Operand.tmp 97) (Operand.const (Value.int IntKind.i64 2)) 3, type := 3, pos := "vantage.go:32", after := #[{ on := 3, ground := Ground.data }], guard := none }) (v := ?_) rfl (by kernel_rfl) (by kernel_rfl) (by kernel_rfl) (fun _ _ _ h => h) (Or.inl ⟨by rfl, ?_⟩) (by assumption) ?_
              rotate_left 1
              · intro w hSw; (try dsimp only at hSw); go_simp; (try with_reducible rfl)
              try simp only [Act.put, List.setIfInBounds_toArray, List.set_cons_zero, List.set_cons_succ]
              refine wpAnyH_take (i := 5) (oi := { dst := some 99, op := Op.binOp BinOp.sub 3 (Operand.tmp 96) (Operand.tmp 98) 3, type := 3, pos := "vantage.go:32", after := #[{ on := 2, ground := Ground.data }, { on := 4, ground := Ground.data }], guard := none }) (v := ?_) rfl (by kernel_rfl) (by kernel_rfl) (by kernel_rfl) (fun _ _ _ h => h) (Or.inl ⟨by rfl, ?_⟩) (by assumption) ?_
              rotate_left 1
              · intro w hSw; (try dsimp only at hSw); go_simp; (try with_reducible rfl)
              try simp only [Act.put, List.setIfInBounds_toArray, List.set_cons_zero, List.set_cons_succ]
              refine wpAnyH_take (i := 6) (oi := { dst := some 100, op := Op.binOp BinOp.neq 3 (Operand.tmp 95) (Operand.tmp 99) 3, type := 4, pos := "vantage.go:32", after := #[{ on := 1, ground := Ground.data }, { on := 5, ground := Ground.data }], guard := none }) (v := ?_) rfl (by kernel_rfl) (by kernel_rfl) (by kernel_rfl) (fun _ _ _ h => h) (Or.inl ⟨by rfl, ?_⟩) (by assumption) ?_
              rotate_left 1
              · intro w hSw; (try dsimp only at hSw); go_simp; (try with_reducible rfl)
              try simp only [Act.put, List.setIfInBounds_toArray, List.set_cons_zero, List.set_cons_succ]
              refine wpAnyH_take (i := 7) (oi := { dst := some 101, op := Op.move (Operand.tmp 100), type := 4, pos := "vantage.go:32", after := #[{ on := 6, ground := Ground.data }], guard := none }) (v := ?_) rfl (by kernel_rfl) (by kernel_rfl) (by kernel_rfl) (fun _ _ _ h => h) (Or.inl ⟨by rfl, ?_⟩) (by assumption) ?_
              rotate_left 1
              · intro w hSw; (try dsimp only at hSw); go_simp; (try with_reducible rfl)
              try simp only [Act.put, List.setIfInBounds_toArray, List.set_cons_zero, List.set_cons_succ]
              refine wpAnyH_take (i := 8) (oi := { dst := some 102, op := Op.move (Operand.tmp 16), type := 22, pos := "vantage.go:32", after := #[{ on := 7, ground := Ground.guard }], guard := some (7, false) }) (v := ?_) rfl (by kernel_rfl) (by kernel_rfl) (by kernel_rfl) (fun _ _ _ h => h) (Or.inl ⟨by rfl, ?_⟩) (by assumption) ?_
              rotate_left 1
              · intro w hSw; (try dsimp only at hSw); go_simp; (try with_reducible rfl)
              try simp only [Act.put, List.setIfInBounds_toArray, List.set_cons_zero, List.set_cons_succ]
              refine wpAnyH_take (i := 9) (oi := { dst := some 103, op := Op.fieldAddr 37 (Operand.tmp 14) 0, type := 0, pos := "vantage.go:32", after := #[{ on := 7, ground := Ground.guard }], guard := some (7, false) }) (v := ?_) rfl (by kernel_rfl) (by kernel_rfl) (by kernel_rfl) (fun _ _ _ h => h) (Or.inl ⟨by rfl, ?_⟩) (by assumption) ?_
              rotate_left 1
              · intro w hSw; (try dsimp only at hSw); go_simp; (try with_reducible rfl)
              try simp only [Act.put, List.setIfInBounds_toArray, List.set_cons_zero, List.set_cons_succ]
              refine wpAnyH_take (i := 10) (oi := { dst := some 104, op := Op.load 26 (Operand.tmp 103), type := 26, pos := "vantage.go:32", after := #[{ on := 9, ground := Ground.data }, { on := 7, ground := Ground.guard }], guard := some (7, false) }) (v := ?_) rfl (by kernel_rfl) (by kernel_rfl) (by kernel_rfl) (fun _ _ _ h => h) (Or.inl ⟨by rfl, ?_⟩) (by assumption) ?_
              rotate_left 1
              · intro w hSw; (try dsimp only at hSw); go_simp; (try with_reducible rfl)
              try simp only [Act.put, List.setIfInBounds_toArray, List.set_cons_zero, List.set_cons_succ]
              refine wpAnyH_take (i := 15) (oi := { dst := some 109, op := Op.fieldAddr 37 (Operand.tmp 14) 1, type := 0, pos := "vantage.go:32", after := #[{ on := 7, ground := Ground.guard }], guard := some (7, false) }) (v := ?_) rfl (by kernel_rfl) (by kernel_rfl) (by kernel_rfl) (fun _ _ _ h => h) (Or.inl ⟨by rfl, ?_⟩) (by assumption) ?_
              rotate_left 1
              · intro w hSw; (try dsimp only at hSw); go_simp; (try with_reducible rfl)
              try simp only [Act.put, List.setIfInBounds_toArray, List.set_cons_zero, List.set_cons_succ]
              refine wpAnyH_take (i := 16) (oi := { dst := some 110, op := Op.load 27 (Operand.tmp 109), type := 27, pos := "vantage.go:32", after := #[{ on := 15, ground := Ground.data }, { on := 7, ground := Ground.guard }], guard := some (7, false) }) (v := ?_) rfl (by kernel_rfl) (by kernel_rfl) (by kernel_rfl) (fun _ _ _ h => h) (Or.inl ⟨by rfl, ?_⟩) (by assumption) ?_
              rotate_left 1
              · intro w hSw; (try dsimp only at hSw); go_simp; (try with_reducible rfl)
              try simp only [Act.put, List.setIfInBounds_toArray, List.set_cons_zero, List.set_cons_succ]
              refine wpAnyH_ready (rs := [11]) (by kernel_rfl) (by simp) ?_
              refine AllReadyH.cons (o := { dst := some 105, op := Op.call { callee := Callee.value (Operand.func 14), args := #[Operand.tmp 102, Operand.tmp 104], argTypes := #[22, 26] }, type := 26, pos := "vantage.go:32", after := #[{ on := 8, ground := Ground.data }, { on := 10, ground := Ground.data }, { on := 7, ground := Ground.chain }, { on := 7, ground := Ground.guard }], guard := some (7, false) }) rfl (fun K hK => ?_) AllReadyH.nil
              (go_simp; go_at_call 14; (refine (squares_at X2 n2 d2 nq L2 p _ (HC.out.2.1.mod (by first | with_reducible exact (Mod.refl _ _).drew | with_reducible exact Mod.refl _ _)) HRO.out.2.2.1 (TP.Ok.mod0 (show p.Ok wc nq from HPO.out.1) (by first | with_reducible exact (Mod.refl _ _).drew | with_reducible exact Mod.refl _ _)) HRO.out.2.2.2.2 (by omega) HG.out.2.2.1).mono ?_; rintro _ wv ⟨V, cV, ws, rfl, v1, v2, v3, v4, v5, v6, v7⟩; have hm1' : Mod (fun _ => False) wc wv := (by first | with_reducible exact v7 | with_reducible exact (Mod.refl _ _).drew.trans v7); have HM1 := Lib.hid hm1'; obtain ⟨r0, r1, dd, am, vb, vo, rfl, cv, hq1, hsub, ham, hlt⟩ := first_root hn2p v1 v4 v5 v6 HS.out.2.1 HS.out.2.2.1 HPO.out.2.2.1 HPO.out.2.2.2 HS.out.1; have HF := Lib.hid (And.intro hq1 ham); have ce0 := (KEEP.out _ HM1.out).1; have ce1 := (KEEP.out _ HM1.out).2; clear hm1' v1 v2 v3 v4 v5 v6 v7 hq1 ham))
              refine hK.out _ _ ?_ (fun hHeld => ?_)
              · exact KEEP.out _ HM1.out
              clear hK K
              try simp only [Act.put, List.setIfInBounds_toArray, List.set_cons_zero, List.set_cons_succ]
              refine wpAnyH_take (i := 12) (oi := { dst := some 106, op := Op.indexAddr 26 (Operand.tmp 105) (Operand.const (Value.int IntKind.i64 0)), type := 0, pos := "vantage.go:32", after := #[{ on := 11, ground := Ground.data }, { on := 7, ground := Ground.guard }], guard := some (7, false) }) (v := ?_) rfl (by kernel_rfl) (by kernel_rfl) (by kernel_rfl) (fun _ _ _ h => h) (Or.inl ⟨by rfl, ?_⟩) (by assumption) ?_
              rotate_left 1
              · intro w hSw; (try dsimp only at hSw); go_simp; (try with_reducible rfl)
              try simp only [Act.put, List.setIfInBounds_toArray, List.set_cons_zero, List.set_cons_succ]
              refine wpAnyH_ready (rs := [13]) (by kernel_rfl) (by simp) ?_
              refine AllReadyH.cons (o := { dst := some 107, op := Op.load 27 (Operand.tmp 106), type := 27, pos := "vantage.go:32", after := #[{ on := 12, ground := Ground.data }, { on := 7, ground := Ground.guard }], guard := some (7, false) }) rfl (fun K hK => ?_) AllReadyH.nil
              go_simp
              refine hK.out _ _ ?_ (fun hHeld => ?_)
              · exact KEEP.out _ HM1.out
              clear hK K
              try simp only [Act.put, List.setIfInBounds_toArray, List.set_cons_zero, List.set_cons_succ]
              refine wpAnyH_ready (rs := [14]) (by kernel_rfl) (by simp) ?_
              refine AllReadyH.cons (o := { dst := some 108, op := Op.call { callee := Callee.value (Operand.func 13), args := #[Operand.tmp 107], argTypes := #[27] }, type := 27, pos := "vantage.go:32", after := #[{ on := 13, ground := Ground.data }, { on := 11, ground := Ground.chain }, { on := 7, ground := Ground.guard }], guard := some (7, false) }) rfl (fun K hK => ?_) AllReadyH.nil
              (go_simp; go_at_call 13; (refine (sqrt_at r0 r1 _ HF.out.1).mono ?_; rintro _ _ ⟨rfl, rfl⟩))
              refine hK.out _ _ ?_ (fun hHeld => ?_)
              · exact KEEP.out _ HM1.out
              clear hK K
              try simp only [Act.put, List.setIfInBounds_toArray, List.set_cons_zero, List.set_cons_succ]
              refine wpAnyH_take (i := 17) (oi := { dst := some 111, op := Op.binOp BinOp.sub 27 (Operand.tmp 108) (Operand.tmp 110) 27, type := 27, pos := "vantage.go:32", after := #[{ on := 14, ground := Ground.data }, { on := 16, ground := Ground.data }, { on := 7, ground := Ground.guard }], guard := some (7, false) }) (v := ?_) rfl (by kernel_rfl) (by kernel_rfl) (by kernel_rfl) (fun _ _ _ h => h) (Or.inl ⟨by rfl, ?_⟩) (by assumption) ?_
              rotate_left 1
              · intro w hSw; (try dsimp only at hSw); go_simp; (try with_reducible rfl)
              try simp only [Act.put, List.setIfInBounds_toArray, List.set_cons_zero, List.set_cons_succ]
              refine wpAnyH_ready (rs := [18]) (by kernel_rfl) (by simp) ?_
              refine AllReadyH.cons (o := { dst := some 112, op := Op.call { callee := Callee.value (Operand.func 12), args := #[Operand.tmp 111], argTypes := #[27] }, type := 27, pos := "vantage.go:32", after := #[{ on := 17, ground := Ground.data }, { on := 14, ground := Ground.chain }, { on := 7, ground := Ground.guard }], guard := some (7, false) }) rfl (fun K hK => ?_) AllReadyH.nil
              (go_simp; go_at_call 12; (refine (abs_at' _ dd am HF.out.2).mono ?_; rintro _ _ ⟨rfl, rfl⟩))
              refine hK.out _ _ ?_ (fun hHeld => ?_)
              · exact KEEP.out _ HM1.out
              clear hK K
              try simp only [Act.put, List.setIfInBounds_toArray, List.set_cons_zero, List.set_cons_succ]
              refine wpAnyH_take (i := 19) (oi := { dst := some 113, op := Op.binOp BinOp.lss 27 (Operand.tmp 112) (Operand.const (Value.float FloatKind.f64 4472074429978902528)) 27, type := 4, pos := "vantage.go:32", after := #[{ on := 18, ground := Ground.data }, { on := 7, ground := Ground.guard }], guard := some (7, false) }) (v := ?_) rfl (by kernel_rfl) (by kernel_rfl) (by kernel_rfl) (fun _ _ _ h => h) (Or.inl ⟨by rfl, ?_⟩) (by assumption) ?_
              rotate_left 1
              · intro w hSw; (try dsimp only at hSw); go_simp; (try with_reducible rfl)
              try simp only [Act.put, List.setIfInBounds_toArray, List.set_cons_zero, List.set_cons_succ]
              refine wpAnyH_take (i := 20) (oi := { dst := some 114, op := Op.unOp UnOp.not 4 (Operand.tmp 113), type := 4, pos := "vantage.go:32", after := #[{ on := 19, ground := Ground.data }, { on := 7, ground := Ground.guard }], guard := some (7, false) }) (v := ?_) rfl (by kernel_rfl) (by kernel_rfl) (by kernel_rfl) (fun _ _ _ h => h) (Or.inl ⟨by rfl, ?_⟩) (by assumption) ?_
              rotate_left 1
              · intro w hSw; (try dsimp only at hSw); go_simp; (try with_reducible rfl)
              try simp only [Act.put, List.setIfInBounds_toArray, List.set_cons_zero, List.set_cons_succ]
              refine wpAnyH_take (i := 21) (oi := { dst := some 115, op := Op.pick (Operand.tmp 101) (Operand.const (Value.bool true)) (Operand.tmp 114), type := 4, pos := "vantage.go:32", after := #[{ on := 7, ground := Ground.data }, { on := 20, ground := Ground.data }], guard := none }) (v := ?_) rfl (by kernel_rfl) (by kernel_rfl) (by kernel_rfl) (fun _ _ _ h => h) (Or.inl ⟨by rfl, ?_⟩) (by assumption) ?_
              rotate_left 1
              · intro w hSw; (try dsimp only at hSw); go_simp; (try with_reducible rfl)
              try simp only [Act.put, List.setIfInBounds_toArray, List.set_cons_zero, List.set_cons_succ]
              refine wpAnyH_done (by kernel_rfl) ?_ _
              go_wp2_with fail
              go_meet
              exact ⟨rfl, HM1.out⟩
            case rest =>
              obtain ⟨rfl, HC2⟩ := hcut
              have HMR2 := Lib.hid (HMR.out.trans HC2.out)
              have y0 : wc.cell? ⟨G, 0, none⟩ = some (.slice p.A nq p.c) := (HC2.out.cell hGc (fun h => h)).trans z0
              have y1 : wc.cell? ⟨G, 1, none⟩ = some (.float .f64 rd) := (HC2.out.cell hGc (fun h => h)).trans z1
              have hGc2 : G < wc.heap.size := Nat.lt_of_lt_of_le hGc HC2.out.size
              have HL1 := Lib.hid (And.intro (HC.out.1.mod HC2.out) (TP.Ok.mod0 (show p.Ok _ nq from HPO.out.1) HC2.out))
              clear z0 z1 hGc
              go_wp2_with fail
              go_loopw [118] (fun i wq => ∃ j : Nat, j ≤ n1 ∧ i = .int .i64 j ∧ Hid (Mod (fun _ => False) wc wq)) (fun i _ => n1 - (intOf i).toNat)
              case atStart => exact ⟨0, Nat.zero_le _, rfl, Mod.refl _ _⟩
              case round =>
                obtain ⟨j, hj, rfl, HJ⟩ := hrel
                by_cases hlj : j < n1
                · have hpi := HL1.out.1.mod HJ.out
                  obtain ⟨b, o, v0, e1, e2, c1'⟩ := hpi.1.at1 hlj
                  have hk2 : j < L1.length := by have := hpi.len; omega
                  obtain ⟨x, ex⟩ : ∃ x, x = L1[j] := ⟨_, rfl⟩
                  have hxm : x ∈ L1 := by rw [ex]; exact List.getElem_mem hk2
                  have e3 : (L1.map TP.v)[j]? = some x.v := by rw [ex]; simp [hk2]
                  rw [e3] at e2
                  cases e2
                  obtain ⟨hrd, hxl⟩ := hpi.2 x hxm
                  have c2' : wr.cell? ⟨b, o + j, none⟩ = some (.slice x.A nq x.c) := by rw [c1', ← hxl]; rfl
                  have t0 : wr.cell? ⟨G, 0, none⟩ = some (.slice p.A nq p.c) := (HJ.out.cell hGc2 (fun h => h)).trans y0
                  have t1 : wr.cell? ⟨G, 1, none⟩ = some (.float .f64 rd) := (HJ.out.cell hGc2 (fun h => h)).trans y1
                  obtain ⟨u, hadd, hroot⟩ := closer_root (rd := rd) (s := s) HS.out.1 (HS.out.2.2.2 x hxm) HPO.out.2.2.2 (HPO.out.2.1 x hxm).1
                  have HX := Lib.hid (And.intro (show x.Ok wr nq from ⟨hxl, hrd.1⟩) (And.intro (HRO.out.2.1 x hxm) (And.intro (TP.Ok.mod0 HL1.out.2 HJ.out) hroot)))
                  subst e1
                  clear hpi hk2 ex hxm e3 c1' hrd hxl hroot
                  have j0' : (0 : Int) ≤ j := by omega
                  have j1' : (j : Int) < n1 := by omega
                  go_upto_region 22 with fail
                  go_cut [131] from 122 to 132 (fun b wx => b = .bool false ∧ Hid (Mod (fun _ => False) wr wx))
                  case first =>
                    go_region_held3 (fun w' => w'.cell? ⟨G, 0, none⟩ = some (.slice p.A nq p.c) ∧ w'.cell? ⟨G, 1, none⟩ = some (.float .f64 rd)) (exact ⟨t0, t1⟩)
                      (first
                        | (go_at_call 15; refine (square_at _ nq x p (by exact HX.out.1) (by exact HX.out.2.2.1) HX.out.2.1 HRO.out.2.2.2.2 HG.out.2.2.1).mono ?_; rintro _ wv ⟨⟨r0, rfl, hr⟩, m1, rfl⟩; obtain ⟨r1, hq, hlt2⟩ := HX.out.2.2.2 r0 hr; have HQ := Lib.hid hq; clear hr hq)
                        | (go_at_call 13; refine (sqrt_at r0 r1 _ HQ.out).mono ?_; rintro _ _ ⟨rfl, rfl⟩))
                    all_goals
                      go_wp2_with fail
                      go_meet
                      exact ⟨rfl, show Mod (fun _ => False) wr _ from by repeat' (first | with_reducible exact Mod.refl _ _ | with_reducible refine Mod.drew ?_ | with_reducible refine Mod.drewN ?_ _)⟩
                  case rest =>
                    obtain ⟨rfl, HC3⟩ := hcut
                    go_wp2_with fail
                    go_roundw
                    case rel => exact ⟨j + 1, by omega, by go_num, HJ.out.trans HC3.out⟩
                    case measure => simp [intOf]; omega
                · obtain rfl : j = n1 := by omega
                  go_wp2_with fail
                  go_roundw
                  case rel => exact ⟨k + 1, by omega, by go_num, HMR2.out.trans HJ.out⟩
                  case measure => simp [intOf]; omega
      · obtain rfl : k = n := by omega
        go_wp2_with fail
        go_ret
        exact ⟨rfl, HW8.out.2.trans HR.out⟩
end Go.Proofs.YtpamoleocjdjiaaDoor

namespace Lox
open Go

theorem wf_u64 {y : Int} (h : (Lit.int .u64 y).wf = true) : ∃ n : Nat, y = n ∧ n < 18446744073709551616 := by
  simp only [Lit.wf, Bool.and_eq_true, decide_eq_true_eq] at h
  have e : IntKind.u64.max = 18446744073709551615 := by decide
  have e2 : IntKind.u64.min = 0 := by decide
  rw [e, e2] at h
  exact ⟨y.toNat, by omega, by omega⟩
end Lox
namespace Go.Proofs.YtpamoleocjdjiaaDoor
open Go.RowKit Lox
set_option linter.unusedVariables false

set_option maxHeartbeats 2000000 in
/-- Where the looks at lengths say no, the law answers true at once. -/
theorem tvbuilt_long (O : Option Addr) (n c one two : Nat) (ps : List TP) (w : World) (h : (RR.mk O c ps).Ok w) (hn : ps.length = n) (hb : ¬ (n ≤ 2147483647 ∧ ∀ p ∈ ps, p.xs.length ≤ 2147483647)) :
    Calls Tryd.prog 3 #[.slice O n c, .int .u64 one, .int .u64 two] w (TvYes w) := by
  have FX : Hid (Calls Tryd.prog 6 #[.slice O n c] w fun e w' => e = .returned (.bool false) ∧ w = w') := by
    show Calls _ _ _ _ _
    rw [← hn]
    refine (fits4_any ⟨O, c, ps⟩ w h).mono ?_
    rintro e w' ⟨b, rfl, rfl, hbb⟩
    cases b with
    | false => exact ⟨rfl, rfl⟩
    | true => exact (hb (by rw [← hn]; exact hbb rfl)).elim
  clear h hn hb
  go_enter Tryd.func3, Tryd.ntmps3
  go_wp2_with (go_at_call 6; refine FX.out.mono ?_; rintro _ w1 ⟨rfl, rfl⟩)
  go_ret
  exact ⟨rfl, Mod.refl _ _⟩

theorem fnTvBuilt_at (x : RR) (one two : Nat) (w : World) (h : x.Ok w) (h1 : one < 18446744073709551616) (h2 : two < 18446744073709551616) :
    Calls Tryd.prog 3 #[x.v, .int .u64 one, .int .u64 two] w (TvYes w) := by
  obtain ⟨O, c, ps⟩ := x
  show Calls _ _ #[.slice O ps.length c, _, _] _ _
  by_cases hb : ps.length ≤ 2147483647 ∧ ∀ p ∈ ps, p.xs.length ≤ 2147483647
  · cases ps with
    | nil => exact tvbuilt_none O c one two w h
    | cons p0 ps => exact tvbuilt_some O _ c one two _ _ p0 w h rfl (by simp) rfl rfl ⟨hb.1, hb.2 p0 (by simp)⟩ h1 h2
  · exact tvbuilt_long O _ c one two ps w h rfl hb
end Go.Proofs.YtpamoleocjdjiaaDoor
