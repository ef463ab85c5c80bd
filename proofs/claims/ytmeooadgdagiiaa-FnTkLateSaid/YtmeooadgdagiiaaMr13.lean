/- Steps of a proof, one behind another: The walk of New with boxes. The walk of Tree.Insert over a k-d tree with boxes. The walk that writes a k-d tree with boxes down as rows of nodes. Conditions: as each theorem says. -/
import Derived.Test.YtmeooadgdagiiaaMr12

namespace Go.Proofs.Ytmeooadgdagiiaa
open Go.RowKit Lox
set_option linter.unusedVariables false
attribute [local go_sem] run_store_flt run_store_fn
attribute [local go_sem ↓] Go.wp_at_zero Go.wp_at_succ

/-- A k-d tree with boxes stands at block tb; its points lie apart from its own blocks. -/
structure TrB (w : World) (dims tb n : Nat) (mt : MT) : Prop where
  tree : ∃ v, Blk w tb 79 [v, .int .i64 n] ∧ mt.In w v
  nodup : mt.ks.Nodup
  apart : tb ∉ mt.ks
  box : mt.Boxed w dims
  each : mt.T.Each (fun _ d => d < dims)
  pts : ∀ p ∈ mt.pts, p.Ok w dims ∧ p.Gr
  far : ∀ p ∈ mt.pts, ∀ b o, p.A = some ⟨b, o, none⟩ → b ∉ mt.ks ∧ b ≠ tb

/-- What New with boxes tells. -/
def NewB (dims pb lc n : Nat) (l : List TP) (ks : List Nat) (w : World) (e : Ending) (w' : World) : Prop :=
  ∃ (tb : Nat) (mt : MT), e = .returned (.pointer (some ⟨tb, 0, none⟩)) ∧ TrB w' dims tb n mt ∧ mt.T = (KB.build leB dims n l ks 0).1 ∧ w.heap.size ≤ tb ∧ (∀ g ∈ mt.ks, w.heap.size ≤ g) ∧ Mod (fun k => k = pb ∨ k = lc) w w'

theorem newB_end {dims pb lc n : Nat} {l : List TP} {ks : List Nat} {w w1 w2 : World} {v : Value} {mt : MT} (hd : 0 < dims) (hl : l.length ≤ n) (hW : WinOk w dims pb lc l) (hg : ∀ p ∈ l, p.Gr)
    (h1 : mt.In w1 v) (h2 : mt.T = (KB.build leB dims n l ks 0).1) (h3 : mt.ks.Nodup) (h4 : ∀ g ∈ mt.ks, w.heap.size ≤ g) (h5 : mt.Boxed w1 dims) (h6 : Mod (fun k => k = pb ∨ k = lc) w w1) (h12 : Mod (fun _ => False) w1 w2) :
    NewB dims pb lc n l ks w (.returned (.pointer (some ⟨w2.heap.size, 0, none⟩))) (w2.alloc (.cells #[v, .int .i64 n] 79)) := by
  have s6 := h6.size
  have s12 := h12.size
  have hin : mt.In w2 v := h1.mod h12 (fun _ _ h => h)
  have hbx : mt.Boxed w2 dims := h5.mod h12 (fun _ _ h => h)
  have hlt := MT.ks_lt hin hbx
  obtain ⟨a1, a2, a3⟩ := KB.build_all leB dims hd n l ks 0 hl hd
  have hm2 : Mod (fun k => k = pb ∨ k = lc) w (w2.alloc (.cells #[v, .int .i64 n] 79)) := (h6.trans (h12.mono (fun _ _ h => h.elim))).alloc _
  have hma : Mod (fun _ => False) w2 (w2.alloc (.cells #[v, .int .i64 n] 79)) := (Mod.refl _ _).alloc _
  have hmem : ∀ p ∈ mt.pts, p ∈ l := fun p hp => by rw [MT.pts_all, h2] at hp; exact a1.mem_iff.1 hp
  refine ⟨w2.heap.size, mt, rfl, ⟨⟨v, Blk.new' _ _ _, hin.mod hma (fun _ _ h => h)⟩, h3, fun h => ?_, hbx.mod hma (fun _ _ h => h), by rw [h2]; exact a3, fun p hp => ⟨((hW.mod hm2).1 p (hmem p hp)).1, hg p (hmem p hp)⟩, fun p hp b o e => ?_⟩, h2, by omega, h4, hm2⟩
  · have := hlt _ h; omega
  · have hok := (hW.1 p (hmem p hp)).1
    have hb : b < w.heap.size := (hok.2.far (by have := hok.1; omega)) (by rw [hok.1]; exact hd) b o e
    exact ⟨fun h => by have := h4 b h; omega, by omega⟩

set_option maxHeartbeats 2000000 in
theorem buildB0_at (w : World) (c lc : Nat) (X : Option Addr) :
    Calls Try.prog 61 #[.iface 71 (picksV (.slice X 0 c) lc), .int .i64 0, .bool true] w fun e w' => e = .returned (.pointer none) ∧ Mod (fun _ => False) w w' := by
  have m1 := kmeth_len
  go_enter Try.func61, Try.ntmps61
  go_wp2_with (go_at_call 124; refine (klen_at _ X 0 c lc).mono ?_; rintro _ w1 ⟨rfl, hm1⟩)
  go_ret
  exact ⟨rfl, hm1⟩

/-- What New asks of buildBounded. -/
def BuiltB (dims pb lc n : Nat) (l : List TP) (ks : List Nat) (w : World) (e : Ending) (w' : World) : Prop :=
  ∃ (v : Value) (mt : MT), e = .returned v ∧ mt.In w' v ∧ mt.T = (KB.build leB dims n l ks 0).1 ∧ mt.ks.Nodup ∧ (∀ g ∈ mt.ks, w.heap.size ≤ g) ∧ mt.Boxed w' dims ∧ Mod (fun k => k = pb ∨ k = lc) w w'

set_option maxRecDepth 100000 in
set_option maxHeartbeats 4000000 in
theorem newB_at (w : World) (dims pb lc n c : Nat) (X : Option Addr) (l : List TP) (ks : List Nat) (hne : lc ≠ pb) (hdm : 0 < dims ∧ dims ≤ 1099511627776) (hn : l.length = n) (hX : 0 < n → X = some ⟨pb, 0, none⟩ ∧ TPs w pb l) (hW : WinOk w dims pb lc l) (hg : ∀ p ∈ l, p.Gr) (hK : PK w lc pb ks)
    (hl : n ≤ 1099511627776) (hc : n ≤ c) (hc2 : c ≤ 9223372036854775807) :
    Calls Try.prog 30 #[.iface 71 (picksV (.slice X n c) lc), .bool true] w (NewB dims pb lc n l ks w) := by
  have m1 := kmeth_len
  have ma := run_assert_bd
  have HB : Hid (∀ w1 : World, w1 = w → Calls Try.prog 61 #[.iface 71 (picksV (.slice X n c) lc), .int .i64 0, .bool true] w1 (BuiltB dims pb lc n l ks w)) := by
    intro w1 hw
    subst hw
    by_cases hn0 : n = 0
    · subst hn0
      have hl0 : l = [] := List.length_eq_zero_iff.1 hn
      subst hl0
      exact (buildB0_at w1 c lc X).mono fun e w' ⟨he, hm⟩ => ⟨_, .nil, he, rfl, rfl, List.nodup_nil, fun g hg => (by cases hg), trivial, hm.mono (fun _ _ h => h.elim)⟩
    obtain ⟨hX1, hT⟩ := hX (by omega)
    have hb := buildB_at dims pb lc hne hdm n w1 0 n c 0 X [] l [] ks rfl hn (Nat.le_refl _) (by simpa using hT) (fun h => hX1) hW hg hK (by simpa [hn] using hl) hc hc2 hdm.1
    exact hb.mono fun e w' ⟨v, mt, q0, q1, q2, q3, q4, q5, _, _, q9⟩ => ⟨v, mt, q0, q1, q2, q3, q4, q5, q9⟩
  have HK := Lib.hid (And.intro hn (And.intro hW hg))
  clear hn hX hW hg hK
  go_enter Try.func30, Try.ntmps30
  go_wp2_with (first
    | (go_at_call 61; refine (HB.out _ rfl).mono ?_; rintro _ w1 ⟨v, mt, rfl, q1, q2, q3, q4, q5, q9⟩; obtain ⟨qv, rfl⟩ := q1.ptr; have HQ := Lib.hid (And.intro q1 (And.intro q2 (And.intro q3 (And.intro q4 (And.intro q5 q9))))); clear q1 q2 q3 q4 q5 q9)
    | (go_at_call 124; refine (klen_at _ X n c lc).mono ?_; rintro _ w2 ⟨rfl, hm2⟩; have HM2 := Lib.hid hm2; clear hm2))
  go_ret
  exact newB_end hdm.1 (by rw [HK.out.1]; exact Nat.le_refl _) HK.out.2.1 HK.out.2.2 HQ.out.1 HQ.out.2.1 HQ.out.2.2.1 HQ.out.2.2.2.1 HQ.out.2.2.2.2.1 HQ.out.2.2.2.2.2 HM2.out
end Go.Proofs.Ytmeooadgdagiiaa

namespace Go.Proofs.Ytmeooadgdagiiaa
open Go.RowKit Lox
set_option linter.unusedVariables false
attribute [local go_sem] run_store_flt run_store_fn

/-- What Insert tells of a tree with boxes. -/
def TInsB (dims tb n : Nat) (q : TP) (mt : MT) (w : World) (e : Ending) (w' : World) : Prop :=
  ∃ mt' : MT, e = .returned (.tuple #[]) ∧ TrB w' dims tb (n + 1) mt' ∧ mt'.T = KB.ins leB dims q 0 mt.T ∧ (∀ g ∈ mt'.ks, g ∈ mt.ks ∨ w.heap.size ≤ g) ∧ Mod (fun k => k = tb ∨ k ∈ mt.ks) w w'

theorem tinsB_end {dims tb n : Nat} {q : TP} {mt mt' : MT} {w w1 : World} {v v' : Value} (hd : 0 < dims) (hb : Blk w tb 79 [v, .int .i64 n]) (hT : TrB w dims tb n mt) (hq : q.Ok w dims) (hg : q.Gr) (hqf : ∀ b o, q.A = some ⟨b, o, none⟩ → b ∉ mt.ks ∧ b ≠ tb)
    (h1 : mt'.In w1 v') (h2 : mt'.T = KB.ins leB dims q 0 mt.T) (h3 : mt'.ks.Nodup) (h4 : ∀ g ∈ mt'.ks, g ∈ mt.ks ∨ w.heap.size ≤ g) (h5 : mt'.Boxed w1 dims) (h6 : Mod (fun k => k ∈ mt.ks) (w.setCell ⟨tb, 1, none⟩ (.int .i64 ((n : Int) + 1))) w1) :
    TInsB dims tb n q mt w (.returned (.tuple #[])) (w1.setCell ⟨tb, 0, none⟩ v') := by
  have htb := hb.lt
  have hm0 : Mod (fun k => k = tb ∨ k ∈ mt.ks) w (w.setCell ⟨tb, 1, none⟩ (.int .i64 ((n : Int) + 1))) := (Mod.refl _ _).set (.inl (.inl rfl)) _
  have hm1 : Mod (fun k => k = tb ∨ k ∈ mt.ks) w w1 := hm0.trans (h6.mono (fun _ _ h => .inr h))
  have hm2 : Mod (fun k => k = tb ∨ k ∈ mt.ks) w (w1.setCell ⟨tb, 0, none⟩ v') := hm1.set (.inl (.inl rfl)) _
  have hm3 : Mod (fun k => k = tb) w1 (w1.setCell ⟨tb, 0, none⟩ v') := (Mod.refl (fun k => k = tb) _).set (p := ⟨tb, 0, none⟩) (.inl rfl) _
  have hb1 : Blk w1 tb 79 [v, .int .i64 ((n : Int) + 1)] := (hb.set 1 (.int .i64 ((n : Int) + 1))).mod h6 hT.apart
  have hap : tb ∉ mt'.ks := fun h => by
    rcases h4 tb h with h | h
    · exact hT.apart h
    · omega
  have hpt : ∀ p ∈ mt'.pts, p.Ok w dims ∧ p.Gr ∧ ∀ b o, p.A = some ⟨b, o, none⟩ → b ∉ mt.ks ∧ b ≠ tb := fun p hp => by
    rw [MT.pts_all, h2] at hp
    have hp := (KB.ins_perm leB dims q mt.T 0).mem_iff.1 hp
    rcases List.mem_cons.1 hp with rfl | hp
    · exact ⟨hq, hg, hqf⟩
    · rw [← MT.pts_all] at hp
      exact ⟨(hT.pts p hp).1, (hT.pts p hp).2, hT.far p hp⟩
  have hne : ∀ k ∈ mt'.ks, ¬ k = tb := fun k hk e => hap (e ▸ hk)
  refine ⟨mt', rfl, ⟨⟨v', ?_, h1.mod hm3 fun k hk => hne k (MT.gs_ks _ k hk)⟩, h3, hap, h5.mod hm3 hne, by rw [h2]; exact KB.ins_each leB dims hd q _ 0 hd hT.each, fun p hp => ⟨(hpt p hp).1.modS hm2 fun b o e => ?_, (hpt p hp).2.1⟩, fun p hp b o e => ⟨fun h => ?_, ((hpt p hp).2.2 b o e).2⟩⟩, h2, h4, hm2⟩
  · have := hb1.set 0 v'
    exact this
  · have h := (hpt p hp).2.2 b o e
    rintro (h' | h')
    · exact h.2 h'
    · exact h.1 h'
  · rcases h4 b h with h | h
    · exact ((hpt p hp).2.2 b o e).1 h
    · have hok := (hpt p hp).1
      have := (hok.2.far (by have := hok.1; omega)) (by rw [hok.1]; exact hd) b o e
      omega

set_option maxRecDepth 100000 in
set_option maxHeartbeats 4000000 in
theorem tinsertB_at (w : World) (dims tb n : Nat) (q : TP) (mt : MT) (hdm : 0 < dims ∧ dims ≤ 1099511627776) (hT : TrB w dims tb n mt) (hq : q.Ok w dims) (hg : q.Gr) (hqf : ∀ b o, q.A = some ⟨b, o, none⟩ → b ∉ mt.ks ∧ b ≠ tb) (hn : n ≤ 4294967296) :
    Calls Try.prog 32 #[.pointer (some ⟨tb, 0, none⟩), .iface 73 (.slice q.A dims q.c), .bool true] w (TInsB dims tb n q mt w) := by
  have ma := run_assert_ext
  obtain ⟨v, hb, hin⟩ := hT.tree
  obtain ⟨qv, rfl⟩ := hin.ptr
  have c0 := hb.at (i := 0) rfl
  have c1 := hb.at (i := 1) rfl
  have f0 := hb.frozen 0
  have f1 := hb.frozen 1
  have hw1 : IntKind.i64.wrap ((n : Int) + 1) = (n : Int) + 1 := IntWalk.i64_in _ (by omega)
  have hm0 : Mod (fun k => k = tb) w (w.setCell ⟨tb, 1, none⟩ (.int .i64 ((n : Int) + 1))) := (Mod.refl (fun k => k = tb) w).set (p := ⟨tb, 1, none⟩) (.inl rfl) _
  have HINS : Hid (Calls Try.prog 63 #[.pointer qv, .iface 73 (.slice q.A dims q.c), .int .i64 0, .bool true] (w.setCell ⟨tb, 1, none⟩ (.int .i64 ((n : Int) + 1))) (InsB dims 0 q mt (w.setCell ⟨tb, 1, none⟩ (.int .i64 ((n : Int) + 1))))) :=
    insB_at dims hdm q hg mt _ (.pointer qv) 0 0 rfl (hin.mod hm0 (fun k hk (e : k = tb) => hT.apart (e ▸ MT.gs_ks _ k hk))) hT.nodup (hT.box.mod hm0 (fun k hk (e : k = tb) => hT.apart (e ▸ hk))) (hq.modS hm0 fun b o e => (hqf b o e).2) (fun b o e => (hqf b o e).1) (fun p hp => ⟨(hT.pts p hp).1.modS hm0 fun b o e => (hT.far p hp b o e).2, (hT.pts p hp).2, fun b o e => (hT.far p hp b o e).1⟩) hT.each
  have hroot : ∀ g p d bx l r, mt = .node g p d bx l r → qv = some ⟨g, 0, none⟩ ∧ (∃ k, w.cell? ⟨g, 4, none⟩ = some (.pointer (some ⟨k, 0, none⟩))) ∧ g ≠ tb := by
    intro g p d bx l r e
    subst e
    obtain ⟨hv, lv, rv, hbn, _⟩ := hin
    injection hv with hv
    obtain ⟨⟨b, rfl, _⟩, _⟩ := hT.box
    exact ⟨hv, ⟨b.g, hbn.at (i := 4) rfl⟩, fun e => hT.apart (by rw [← e]; simp [MT.ks])⟩
  have hnil : mt = .nil → qv = none := fun e => by
    subst e
    have hv : Value.pointer qv = .pointer none := hin
    injection hv
  have END : Hid (∀ (e : Ending) (w1 : World), InsB dims 0 q mt (w.setCell ⟨tb, 1, none⟩ (.int .i64 ((n : Int) + 1))) e w1 → ∃ qw, e = .returned (.pointer qw) ∧ w1.cell? ⟨tb, 0, none⟩ = some (.pointer qv) ∧ w1.frozen? ⟨tb, 0, none⟩ = false ∧ TInsB dims tb n q mt w (.returned (.tuple #[])) (w1.setCell ⟨tb, 0, none⟩ (.pointer qw))) := by
    rintro e w1 ⟨v', mt', rfl, i1, i2, i3, i4, i5, i6⟩
    obtain ⟨qw, rfl⟩ := i1.ptr
    have hb1 := (hb.set 1 (.int .i64 ((n : Int) + 1))).mod i6 hT.apart
    exact ⟨qw, rfl, hb1.at (i := 0) rfl, hb1.frozen 0, tinsB_end hdm.1 hb hT hq hg hqf i1 i2 i3 (fun g hgg => by rcases i4 g hgg with h | h; exact .inl h; exact .inr (by simpa [World.setCell] using h)) i5 i6⟩
  clear hb hin hT hq hg hqf hm0
  cases mt with
  | nil =>
    obtain rfl := hnil rfl
    clear hroot hnil
    go_enter Try.func32, Try.ntmps32
    go_wp2_with (go_at_call 63; refine HINS.out.mono ?_; rintro e w1 he; obtain ⟨qw, rfl, y0, z0, hend⟩ := END.out _ _ he; have HE := Lib.hid hend; clear hend he)
    exact bodyPost_end (by simp [results, Try.results32, go_sem]) rfl HE.out
  | node g p d bx l r =>
    obtain ⟨e0, ⟨kb, c4⟩, hgt⟩ := hroot g p d bx l r rfl
    subst e0
    clear hroot hnil
    have hgt' : tb ≠ g := Ne.symm hgt
    go_enter Try.func32, Try.ntmps32
    go_wp2_with (go_at_call 63; refine HINS.out.mono ?_; rintro e w1 he; obtain ⟨qw, rfl, y0, z0, hend⟩ := END.out _ _ he; have HE := Lib.hid hend; clear hend he)
    exact bodyPost_end (by simp [results, Try.results32, go_sem]) rfl HE.out
end Go.Proofs.Ytmeooadgdagiiaa

namespace Go.Proofs.Ytmeooadgdagiiaa
open Go.RowKit Lox
set_option linter.unusedVariables false
attribute [local go_sem] run_store_flt run_store_fn
attribute [local go_sem ↓] Go.wp_at_zero Go.wp_at_succ

theorem own_sl {w : World} {B dims b c : Nat} {xs : List Nat} (h : w.ownsRow B 27 1 (.slice (some ⟨b, 0, none⟩) dims c) dims (flts xs)) : Sl w (some ⟨b, 0, none⟩) dims 1 (flts xs) :=
  ⟨by rw [h.1], fun _ => ⟨b, 0, rfl, fun j v hv => by rw [Nat.zero_add]; exact (own_at h hv).1⟩⟩

/-- A tree with boxes that may be written down: its points and boxes are there, apart from the row. -/
structure KTrB (w : World) (dims : Nat) (mt : MT) (nv ov : Value) : Prop where
  tin : mt.In w nv
  pts : ∀ p ∈ mt.pts, p.Ok w dims ∧ ∀ b o, p.A = some ⟨b, o, none⟩ → ov.ownBlock ≠ some b
  box : mt.Boxed w dims
  far : ∀ k ∈ mt.ks, ov.ownBlock ≠ some k

theorem KTrB.keep {w W : World} {dims : Nat} {t : MT} {nv ov v' : Value} (hd : 0 < dims) (h : KTrB w dims t nv ov) (hm : Mod (fun k => ov.ownBlock = some k) w W) (hv : Newer ov v' w.heap.size) : KTrB W dims t nv v' := by
  have lo : ∀ b, b < w.heap.size → ov.ownBlock ≠ some b → v'.ownBlock ≠ some b := fun b hb hn e2 => by
    rcases hv with h3 | ⟨g, h3, h4⟩
    · rw [h3] at e2; exact hn e2
    · rw [h3] at e2
      injection e2 with e2
      omega
  refine ⟨h.tin.mod hm fun k hk => h.far k (MT.gs_ks _ k hk), fun p hp => ⟨(h.pts p hp).1.modS hm (h.pts p hp).2, fun b o e => ?_⟩, h.box.mod hm h.far, fun k hk => lo k (MT.ks_lt h.tin h.box k hk) (h.far k hk)⟩
  obtain ⟨h1, h2⟩ := h.pts p hp
  exact lo b ((h1.2.far (by have := h1.1; omega)) (by rw [h1.1]; exact hd) b o e) (h2 b o e)

theorem knB_end {B dims m g g2 N c2 pl : Nat} {p : TP} {bb : BX} {l r : MT} {ov v1 v2 : Value} {rs rs1 rs2 : List KR} {x : KR} {w w3 w4 w5 : World} (hm : m = rs.length) (hx : x.plain = ⟨p.xs, pl, 0, 0, bb.mn.xs, bb.mx.xs⟩)
    (hB : B ≤ w.heap.size) (h3 : Mod (fun k => ov.ownBlock = some k) w w3) (n3 : Newer ov v1 w.heap.size)
    (h4 : Mod (fun k => v1.ownBlock = some k) w3 w4) (n4 : Newer v1 v2 w3.heap.size) (h5 : Mod (fun k => v2.ownBlock = some k) w4 w5) (n5 : Newer v2 (.slice (some ⟨g2, 0, none⟩) N c2) w4.heap.size)
    (hp1 : rs1.map KR.plain = l.flat (m + 1)) (hp2 : rs2.map KR.plain = r.flat (m + 1 + l.count)) (hK : KS B w5 dims (.slice (some ⟨g2, 0, none⟩) N c2) (((rs ++ [x]) ++ rs1) ++ rs2)) (hN : N = (((rs ++ [x]) ++ rs1) ++ rs2).length) :
    KnTold B dims (.node g p pl (some bb) l r) ov rs w (.returned (.tuple #[.slice (some ⟨g2, 0, none⟩) N c2, .int .i64 m]))
      ((w5.setCell ⟨g2, m * 6 + 2, none⟩ (.int .i64 (l.at (m + 1)))).setCell ⟨g2, m * 6 + 3, none⟩ (.int .i64 (r.at (m + 1 + l.count)))) := by
  have e0 : (((rs ++ [x]) ++ rs1) ++ rs2) = rs ++ x :: (rs1 ++ rs2) := by simp
  have hget : (((rs ++ [x]) ++ rs1) ++ rs2)[m]? = some x := by rw [e0, hm]; simp
  have hs := hK.sides hN hget (l.at (m + 1)) (r.at (m + 1 + l.count))
  rw [e0, hm, set_mid] at hs
  have s3 := h3.size
  have s4 := h4.size
  have s5 := h5.size
  have n1 : Newer ov v2 w.heap.size := n3.trans n4 s3
  have n2 : Newer ov (.slice (some ⟨g2, 0, none⟩) N c2) w.heap.size := n1.trans n5 (by omega)
  refine ⟨_, _, by rw [hm]; rfl, by rw [hm]; exact hs, ?_, ?_, ?_, ⟨some ⟨g2, 0, none⟩, c2, by rw [hN]; simp⟩⟩
  · obtain ⟨xp, xpl, xl, xr, xmn, xmx⟩ := x
    simp only [KR.plain, PR.mk.injEq] at hx
    obtain ⟨a1, a2, a3, a4, a5, a6⟩ := hx
    simp only [List.map_cons, List.map_append, hp1, hp2, MT.flat, KR.plain, ← hm, a1, a2, a5, a6, boxMn, boxMx]
  · have h35 : Mod (fun k => ov.ownBlock = some k) w w5 := Mod.newer (Mod.newer h3 h4 n3) h5 n1
    have hg2 : ov.ownBlock = some g2 ∨ w.heap.size ≤ g2 := by
      rcases n2 with n2 | ⟨g', n2, n2'⟩
      · exact .inl n2.symm
      · have e : some g2 = some g' := n2
        injection e with e
        exact .inr (by omega)
    exact (h35.set (p := ⟨g2, m * 6 + 2, none⟩) hg2 _).set (p := ⟨g2, m * 6 + 3, none⟩) hg2 _
  · exact n2

/-- What stands behind the append of a node. -/
structure KnAtB (B dims g pl : Nat) (p : TP) (bb : BX) (l r : MT) (ql qr : Option Addr) (v : Value) (rs : List KR) (W : World) : Prop where
  ks : KS B W dims v rs
  blk : Blk W g 122 (nodeCells p pl (.pointer ql) (.pointer qr) (some bb))
  tl : KTrB W dims l (.pointer ql) v
  tr : KTrB W dims r (.pointer qr) v

theorem knB_push {B dims m g gg cap pl : Nat} {p : TP} {bb : BX} {l r : MT} {ql qr A : Option Addr} {c : Nat} {rs : List KR} {x : KR} {w wc w3 : World} {o : Obj} (hd : 0 < dims) (hm : m = rs.length) (hmw : Mod (fun _ => False) w wc)
    (hK : KS B wc dims (.slice A m c) rs) (hx : x.p.Own B wc dims (.slice A m c) ∧ x.mn.Own0 B wc dims (.slice A m c) ∧ x.mx.Own0 B wc dims (.slice A m c)) (hb : Blk wc g 122 (nodeCells p pl (.pointer ql) (.pointer qr) (some bb)))
    (hl : KTrB w dims l (.pointer ql) (.slice A m c)) (hr : KTrB w dims r (.pointer qr) (.slice A m c)) (hne : (Value.slice A m c).ownBlock ≠ some g)
    (hown : w3.ownsRow B 39 6 (.slice (some ⟨gg, 0, none⟩) (m + 1) cap) (m + 1) (rs.flatMap KR.cells ++ x.cells)) (hgrow : (wc.alloc o).grownBy w3 (Value.slice A m c).ownBlock) (hat : (Value.slice A m c).ownBlock = some gg ∨ gg = wc.heap.size + 1) :
    KnAtB B dims g pl p bb l r ql qr (.slice (some ⟨gg, 0, none⟩) (m + 1) cap) (rs ++ [x]) w3 ∧ Newer (.slice A m c) (.slice (some ⟨gg, 0, none⟩) (m + 1) cap) w.heap.size ∧ Mod (fun k => (Value.slice A m c).ownBlock = some k) w w3 := by
  have hz := hmw.size
  have hN : Newer (.slice A m c) (.slice (some ⟨gg, 0, none⟩) (m + 1) cap) w.heap.size := by
    rcases hat with h | h
    · exact .inl h.symm
    · exact .inr ⟨gg, rfl, by omega⟩
  have hM : Mod (fun k => (Value.slice A m c).ownBlock = some k) w w3 := ((hmw.mono (fun _ _ h => h.elim) : Mod (fun k => (Value.slice A m c).ownBlock = some k) w wc).alloc o).grown hgrow (fun k e _ => e)
  refine ⟨⟨?_, (hb.alloc o).grown hgrow (Ne.symm hne), hl.keep hd hM hN, hr.keep hd hM hN⟩, hN, hM⟩
  subst hm
  exact hK.push hd hx hown hgrow hat

theorem KnAtB.step {B dims g pl : Nat} {p : TP} {bb : BX} {l r : MT} {ql qr : Option Addr} {v v' : Value} {rs rs' : List KR} {W W' : World} (hd : 0 < dims) (h : KnAtB B dims g pl p bb l r ql qr v rs W) (hK : KS B W' dims v' rs') (hm : Mod (fun k => v.ownBlock = some k) W W') (hn : Newer v v' W.heap.size) : KnAtB B dims g pl p bb l r ql qr v' rs' W' :=
  ⟨hK, h.blk.mod hm (owns_ne h.ks.own h.blk (by decide)), h.tl.keep hd hm hn, h.tr.keep hd hm hn⟩

theorem mod_set_own {wc W : World} {kb o : Nat} {v : Value} (h : Mod (fun k => k = kb) wc W) : Mod (fun k => k = kb) wc (W.setCell ⟨kb, o, none⟩ v) := h.set (p := ⟨kb, o, none⟩) (.inl rfl) _

theorem fresh_mod {wc W : World} {A : Option Addr} (h : Mod (fun _ => False) wc W) (hf : ∀ b o, A = some ⟨b, o, none⟩ → W.heap.size ≤ b) : ∀ b o, A = some ⟨b, o, none⟩ → wc.heap.size ≤ b := fun b o e => by
  have := hf b o e
  have := h.size
  omega

/-- Both corners have been copied and laid into the node. -/
def Cornered (w : World) (kb dims pl : Nat) (A2 : Option Addr) (C2 : Nat) (pxs mn mx : List Nat) (W : World) : Prop :=
  ∃ (A3 : Option Addr) (C3 : Nat) (A4 : Option Addr) (C4 : Nat), Blk W kb 39 [.slice A2 dims C2, .int .i64 pl, .int .i64 0, .int .i64 0, .slice A3 dims C3, .slice A4 dims C4] ∧ Sl W A2 dims 1 (flts pxs) ∧ Sl W A3 dims 1 (flts mn) ∧ Sl W A4 dims 1 (flts mx) ∧
    (∀ b o, A2 = some ⟨b, o, none⟩ → w.heap.size ≤ b) ∧ (∀ b o, A3 = some ⟨b, o, none⟩ → w.heap.size ≤ b) ∧ (∀ b o, A4 = some ⟨b, o, none⟩ → w.heap.size ≤ b) ∧ Mod (fun _ => False) w W

theorem cornered {w wa u W : World} {kb dims pl : Nat} {A2 A3 A4 : Option Addr} {C2 C3 C4 : Nat} {pxs mn mx : List Nat} (hkb : w.heap.size ≤ kb) (hb : Blk wa kb 39 [.slice A2 dims C2, .int .i64 pl, .int .i64 0, .int .i64 0, .slice none 0 0, .slice none 0 0]) (hm : Mod (fun _ => False) w wa) (hA2 : ∀ b o, A2 = some ⟨b, o, none⟩ → w.heap.size ≤ b ∧ b ≠ kb) (hs2 : Sl wa A2 dims 1 (flts pxs))
    (hu : Mod (fun _ => False) wa u) (hs3 : Sl u A3 dims 1 (flts mn)) (hs4 : Sl u A4 dims 1 (flts mx)) (h3 : ∀ b o, A3 = some ⟨b, o, none⟩ → wa.heap.size ≤ b) (h4 : ∀ b o, A4 = some ⟨b, o, none⟩ → wa.heap.size ≤ b)
    (hW : W = (u.setCell ⟨kb, 4, none⟩ (.slice A3 dims C3)).setCell ⟨kb, 5, none⟩ (.slice A4 dims C4) ∨ W = (u.setCell ⟨kb, 5, none⟩ (.slice A4 dims C4)).setCell ⟨kb, 4, none⟩ (.slice A3 dims C3)) : Cornered w kb dims pl A2 C2 pxs mn mx W := by
  have hkl := hb.lt
  have s1 := hm.size
  have n2 : ∀ b o, A2 = some ⟨b, o, none⟩ → b ≠ kb := fun b o e => (hA2 b o e).2
  have n3 : ∀ b o, A3 = some ⟨b, o, none⟩ → b ≠ kb := fun b o e => by have := h3 b o e; omega
  have n4 : ∀ b o, A4 = some ⟨b, o, none⟩ → b ≠ kb := fun b o e => by have := h4 b o e; omega
  have hb' := hb.mod hu (fun h => h)
  refine ⟨A3, C3, A4, C4, ?_, ?_, ?_, ?_, fun b o e => (hA2 b o e).1, fun b o e => by have := h3 b o e; omega, fun b o e => by have := h4 b o e; omega, ?_⟩
  · rcases hW with rfl | rfl
    · exact (hb'.set 4 (.slice A3 dims C3)).set 5 (.slice A4 dims C4)
    · exact (hb'.set 5 (.slice A4 dims C4)).set 4 (.slice A3 dims C3)
  · rcases hW with rfl | rfl <;> exact sl_set (sl_set (hs2.mod hu) n2 _) n2 _
  · rcases hW with rfl | rfl <;> exact sl_set (sl_set hs3 n3 _) n3 _
  · rcases hW with rfl | rfl <;> exact sl_set (sl_set hs4 n4 _) n4 _
  · rcases hW with rfl | rfl <;> exact ((hm.trans hu).set (.inr hkb) _).set (.inr hkb) _

set_option maxRecDepth 100000 in
set_option maxHeartbeats 8000000 in
theorem knodesB_at (B dims : Nat) (hdm : 0 < dims ∧ dims ≤ 1099511627776) (mt : MT) :
    ∀ (w : World) (nv ov : Value) (rs : List KR), KTrB w dims mt nv ov → KS B w dims ov rs → B ≤ w.heap.size → rs.length + mt.count ≤ 4294967296 →
      Calls Try.prog 34 #[nv, ov] w (KnTold B dims mt ov rs w) := by
  have hta := run_assert_pt
  induction mt with
  | nil =>
    intro w nv ov rs hT hK hB hn
    have hv : nv = .pointer none := hT.tin
    subst hv
    have HK := Lib.hid hK
    obtain ⟨A, c, e⟩ : ∃ A c, ov = .slice A rs.length c := by
      rcases hK.own.2 with ⟨rfl, h0⟩ | ⟨g, cap, cur, e1, _⟩
      · exact ⟨none, 0, by rw [h0]⟩
      · exact ⟨_, _, e1⟩
    subst e
    clear hT hK
    go_enter Try.func34, Try.ntmps34
    go_wp2
    go_ret2
    exact kn_nil HK.out
  | node g p pl bx l r ihl ihr =>
    intro w nv ov rs hT hK hB hn
    obtain ⟨⟨hv, lv, rv, hb, hl, hr⟩, hP, ⟨⟨bb, hbx, b1, b2, eA, eX, hbk, hbo⟩, hbl, hbr⟩, hfar⟩ := hT
    subst hv hbx
    obtain ⟨ql, rfl⟩ := hl.ptr
    obtain ⟨qr, rfl⟩ := hr.ptr
    obtain ⟨A, c, e⟩ : ∃ A c, ov = .slice A rs.length c := by
      rcases hK.own.2 with ⟨rfl, h0⟩ | ⟨g, cap, cur, e1, _⟩
      · exact ⟨none, 0, by rw [h0]⟩
      · exact ⟨_, _, e1⟩
    subst e
    have hpp := hP p (by simp [MT.pts])
    have c0 : w.cell? ⟨g, 0, none⟩ = some (.iface 73 (.slice p.A dims p.c)) := by rw [← hpp.1.1]; exact hb.at (i := 0) rfl
    have c1 : w.cell? ⟨g, 1, none⟩ = some (.int .i64 pl) := hb.at (i := 1) rfl
    have c4 : w.cell? ⟨g, 4, none⟩ = some (.pointer (some ⟨bb.g, 0, none⟩)) := hb.at (i := 4) rfl
    have d0 : w.cell? ⟨bb.g, 0, none⟩ = some (.iface 73 (.slice (some ⟨b1, 0, none⟩) dims bb.mn.c)) := hbk.blk.at (i := 0) rfl
    have d1 : w.cell? ⟨bb.g, 1, none⟩ = some (.iface 73 (.slice (some ⟨b2, 0, none⟩) dims bb.mx.c)) := hbk.blk.at (i := 1) rfl
    have hgl := hb.lt
    have hbgl := hbk.blk.lt
    have hsl : Sl w p.A dims 1 (flts p.xs) := by have := hpp.1.2; rw [hpp.1.1] at this; exact this
    have sl1 := own_sl hbk.own1
    have sl2 := own_sl hbk.own2
    obtain ⟨m, hm⟩ : ∃ m, m = rs.length := ⟨_, rfl⟩
    rw [← hm]
    have hmb : m ≤ 4294967296 := by simp only [MT.count] at hn; omega
    have H1 := Lib.hid (And.intro hsl (And.intro hpp (And.intro hm (And.intro hn hB))))
    have H2 := Lib.hid (And.intro hb (And.intro hl (And.intro hr (And.intro hP (And.intro hbl (And.intro hbr hK))))))
    have H3 := Lib.hid (And.intro sl1 (And.intro sl2 (And.intro hfar (And.intro hbo.lmn hbo.lmx))))
    have HIL := Lib.hid ihl
    have HIR := Lib.hid ihr
    clear hsl hpp hm hn hB hb hl hr hP hbl hbr hK ihl ihr sl1 sl2 hfar hbk hbo eA eX
    go_enter Try.func34, Try.ntmps34
    go_wp2_with fail
    go_cut [7] from 15 to 25 (fun q wx => ∃ (kb : Nat) (A2 : Option Addr) (c2 : Nat), q = .pointer (some ⟨kb, 0, none⟩) ∧ w.heap.size ≤ kb ∧ Hid (Blk wx kb 39 [.slice A2 dims c2, .int .i64 pl, .int .i64 0, .int .i64 0, .slice none 0 0, .slice none 0 0] ∧ Sl wx A2 dims 1 (flts p.xs) ∧ (∀ b o, A2 = some ⟨b, o, none⟩ → w.heap.size ≤ b ∧ b ≠ kb) ∧ Mod (fun _ => False) w wx))
    case first =>
      have KEEP : Hid (∀ W : World, Mod (fun _ => False) w W → W.cell? ⟨g, 0, none⟩ = some (.iface 73 (.slice p.A dims p.c)) ∧ W.cell? ⟨g, 1, none⟩ = some (.int .i64 pl)) := fun W hm => ⟨(hm.cell hgl (fun h => h)).trans c0, (hm.cell hgl (fun h => h)).trans c1⟩
      go_region_held3 (fun w' => w'.cell? ⟨g, 0, none⟩ = some (.iface 73 (.slice p.A dims p.c)) ∧ w'.cell? ⟨g, 1, none⟩ = some (.int .i64 pl)) (first | with_reducible exact KEEP.out _ HMA.out | with_reducible exact KEEP.out _ (HMA.out.alloc _) | with_reducible exact KEEP.out _ ((((((HMA.out.set (.inr (Nat.le_refl _)) _).set (.inr (Nat.le_refl _)) _).set (.inr (Nat.le_refl _)) _).set (.inr (Nat.le_refl _)) _).set (.inr (Nat.le_refl _)) _).set (.inr (Nat.le_refl _)) _) | with_reducible exact KEEP.out _ ((Mod.refl _ _).alloc _).drew | with_reducible exact KEEP.out _ (Mod.refl _ _).drew | with_reducible exact KEEP.out _ (Mod.refl _ _))
        (first | (go_at_call 33; refine (floats_any p.A dims p.c p.xs _ (by first | with_reducible exact H1.out.1.drew | with_reducible exact (H1.out.1.alloc _).drew) hdm.2 hdm.1).mono ?_; rintro _ w1 ⟨A2, cc2, rfl, hs2, hm2, hb2⟩; have hma : Mod (fun _ => False) w w1 := (by first | with_reducible exact (Mod.refl _ _).drew.trans hm2 | with_reducible exact ((Mod.refl _ _).alloc _).drew.trans hm2); (try (have B1 : Blk w1 w.heap.size 39 [.slice none 0 0, .int .i64 0, .int .i64 0, .int .i64 0, .slice none 0 0, .slice none 0 0] := (Blk.new' w #[.slice none 0 0, .int .i64 0, .int .i64 0, .int .i64 0, .slice none 0 0, .slice none 0 0] 39).drew.mod (by with_reducible exact hm2) (fun h => h); have y0 := B1.at (i := 0) rfl; have y1 := B1.at (i := 1) rfl; have y2 := B1.at (i := 2) rfl; have y3 := B1.at (i := 3) rfl; have y4 := B1.at (i := 4) rfl; have y5 := B1.at (i := 5) rfl; have z0 := B1.frozen 0; have z1 := B1.frozen 1; have z2 := B1.frozen 2; have z3 := B1.frozen 3; have z4 := B1.frozen 4; have z5 := B1.frozen 5; have HB1 := Lib.hid B1; clear B1)); have HMA := Lib.hid hma; have HW := Lib.hid (And.intro hs2 (And.intro hm2 hb2)); clear hs2 hm2 hb2 hma))
      all_goals
        have hz1 := HMA.out.size
        have hg1 : g < w1.heap.size := by omega
        have hgw : g ≠ w.heap.size := by omega
        have hgw' : w.heap.size ≠ g := by omega
        go_wp2_with fail
        go_meet
        first
          | exact ⟨_, A2, cc2, rfl, hz1, Blk.new' _ _ _, HW.out.1.alloc _, fun b o e => ⟨HW.out.2.2 b o e, Nat.ne_of_lt (HW.out.1.far (Nat.le_refl 1) hdm.1 b o e)⟩, HMA.out.alloc _⟩
          | (have hb3 : ∀ b o, A2 = some ⟨b, o, none⟩ → w.heap.size + 1 ≤ b := fun b o e => by
               have := HW.out.2.2 b o e
               rw [show ∀ x : World, x.drew.heap.size = x.heap.size from fun _ => rfl, World.size_alloc] at this
               exact this
             have hne : ∀ b o, A2 = some ⟨b, o, none⟩ → b ≠ w.heap.size := fun b o e => by have := hb3 b o e; omega
             exact ⟨_, A2, cc2, rfl, Nat.le_refl _, (((((HB1.out.set 0 _).set 1 _).set 2 _).set 3 _).set 4 _).set 5 _, sl_set (sl_set (sl_set (sl_set (sl_set (sl_set HW.out.1 hne _) hne _) hne _) hne _) hne _) hne _, fun b o e => ⟨by have := hb3 b o e; omega, hne b o e⟩, ((((((HMA.out.set (.inr (Nat.le_refl _)) _).set (.inr (Nat.le_refl _)) _).set (.inr (Nat.le_refl _)) _).set (.inr (Nat.le_refl _)) _).set (.inr (Nat.le_refl _)) _).set (.inr (Nat.le_refl _)) _)⟩)
    case rest =>
      obtain ⟨kb, A2, C2, rfl, hkb, HA⟩ := hcut
      have hkbl := HA.out.1.lt
      have a4 : wc.cell? ⟨g, 4, none⟩ = some (.pointer (some ⟨bb.g, 0, none⟩)) := (HA.out.2.2.2.cell hgl (fun h => h)).trans c4
      have KEEP : Hid (∀ W : World, Mod (fun k => k = kb) wc W → W.cell? ⟨g, 4, none⟩ = some (.pointer (some ⟨bb.g, 0, none⟩)) ∧ W.cell? ⟨bb.g, 0, none⟩ = some (.iface 73 (.slice (some ⟨b1, 0, none⟩) dims bb.mn.c)) ∧ W.cell? ⟨bb.g, 1, none⟩ = some (.iface 73 (.slice (some ⟨b2, 0, none⟩) dims bb.mx.c))) := by
        have hz := HA.out.2.2.2.size
        have gk : ¬ g = kb := by omega
        have bk : ¬ bb.g = kb := by omega
        have e0 := (HA.out.2.2.2.cell hbgl (fun h => h)).trans d0
        have e1 := (HA.out.2.2.2.cell hbgl (fun h => h)).trans d1
        intro W hW
        refine ⟨?_, ?_, ?_⟩
        · exact (hW.cell (lt_of_cell a4) gk).trans a4
        · exact (hW.cell (lt_of_cell e0) bk).trans e0
        · exact (hW.cell (lt_of_cell e1) bk).trans e1
      clear c0 c1 c4 d0 d1
      go_upto_region 6 with fail
      go_cut [7] from 31 to 50 (fun q wx => q = .pointer (some ⟨kb, 0, none⟩) ∧ Hid (Cornered w kb dims pl A2 C2 p.xs bb.mn.xs bb.mx.xs wx))
      case first =>
        go_region_held3 (fun w' => w'.cell? ⟨g, 4, none⟩ = some (.pointer (some ⟨bb.g, 0, none⟩)) ∧ w'.cell? ⟨bb.g, 0, none⟩ = some (.iface 73 (.slice (some ⟨b1, 0, none⟩) dims bb.mn.c)) ∧ w'.cell? ⟨bb.g, 1, none⟩ = some (.iface 73 (.slice (some ⟨b2, 0, none⟩) dims bb.mx.c)))
          (first | with_reducible exact KEEP.out _ (by repeat' (first | with_reducible exact Mod.refl _ _ | with_reducible exact HM3.out.2.1.mono (fun _ _ h => h.elim) | with_reducible exact HM4.out.2.1.mono (fun _ _ h => h.elim) | with_reducible refine Mod.drew ?_ | with_reducible refine Mod.drewN ?_ _ | with_reducible refine mod_set_own ?_)) | go_keep)
          (first
            | (go_at_call 33; refine (floats_any (some ⟨b1, 0, none⟩) dims bb.mn.c bb.mn.xs _ (H3.out.1.mod (HA.out.2.2.2.trans (by repeat' (first | with_reducible exact Mod.refl _ _ | with_reducible exact HM3.out.2.1 | with_reducible exact HM4.out.2.1 | with_reducible refine Mod.drew ?_ | with_reducible refine Mod.drewN ?_ _)))) hdm.2 hdm.1).mono ?_; rintro _ u1 ⟨A3, C3, rfl, hs3, hm3, hf3⟩; have hma : Mod (fun _ => False) wc u1 := Mod.trans (by repeat' (first | with_reducible exact Mod.refl _ _ | with_reducible exact HM3.out.2.1 | with_reducible exact HM4.out.2.1 | with_reducible refine Mod.drew ?_ | with_reducible refine Mod.drewN ?_ _)) hm3; have hfa : ∀ b o, A3 = some ⟨b, o, none⟩ → wc.heap.size ≤ b := fresh_mod (by repeat' (first | with_reducible exact Mod.refl _ _ | with_reducible exact HM3.out.2.1 | with_reducible exact HM4.out.2.1 | with_reducible refine Mod.drew ?_ | with_reducible refine Mod.drewN ?_ _)) hf3; (try (have T4 : Sl u1 A4 dims 1 (flts bb.mx.xs) := HM4.out.1.mod (Mod.trans (by repeat' (first | with_reducible exact Mod.refl _ _ | with_reducible exact HM3.out.2.1 | with_reducible exact HM4.out.2.1 | with_reducible refine Mod.drew ?_ | with_reducible refine Mod.drewN ?_ _)) hm3); have HT4 := Lib.hid T4; clear T4)); have B1 := HA.out.1.mod hma (fun h => h); have y4 := B1.at (i := 4) rfl; have y5 := B1.at (i := 5) rfl; have z4 := B1.frozen 4; have z5 := B1.frozen 5; have HM3 := Lib.hid (And.intro hs3 (And.intro hma hfa)); clear hs3 hm3 hf3 hma hfa B1)
            | (go_at_call 33; refine (floats_any (some ⟨b2, 0, none⟩) dims bb.mx.c bb.mx.xs _ (H3.out.2.1.mod (HA.out.2.2.2.trans (by repeat' (first | with_reducible exact Mod.refl _ _ | with_reducible exact HM3.out.2.1 | with_reducible exact HM4.out.2.1 | with_reducible refine Mod.drew ?_ | with_reducible refine Mod.drewN ?_ _)))) hdm.2 hdm.1).mono ?_; rintro _ u2 ⟨A4, C4, rfl, hs3, hm3, hf3⟩; have hma : Mod (fun _ => False) wc u2 := Mod.trans (by repeat' (first | with_reducible exact Mod.refl _ _ | with_reducible exact HM3.out.2.1 | with_reducible exact HM4.out.2.1 | with_reducible refine Mod.drew ?_ | with_reducible refine Mod.drewN ?_ _)) hm3; have hfa : ∀ b o, A4 = some ⟨b, o, none⟩ → wc.heap.size ≤ b := fresh_mod (by repeat' (first | with_reducible exact Mod.refl _ _ | with_reducible exact HM3.out.2.1 | with_reducible exact HM4.out.2.1 | with_reducible refine Mod.drew ?_ | with_reducible refine Mod.drewN ?_ _)) hf3; (try (have T3 : Sl u2 A3 dims 1 (flts bb.mn.xs) := HM3.out.1.mod (Mod.trans (by repeat' (first | with_reducible exact Mod.refl _ _ | with_reducible exact HM3.out.2.1 | with_reducible exact HM4.out.2.1 | with_reducible refine Mod.drew ?_ | with_reducible refine Mod.drewN ?_ _)) hm3); have HT3 := Lib.hid T3; clear T3)); have B1 := HA.out.1.mod hma (fun h => h); have y4 := B1.at (i := 4) rfl; have y5 := B1.at (i := 5) rfl; have z4 := B1.frozen 4; have z5 := B1.frozen 5; have HM4 := Lib.hid (And.intro hs3 (And.intro hma hfa)); clear hs3 hm3 hf3 hma hfa B1))
        all_goals
          go_wp2_with fail
          go_meet
          first
            | exact ⟨rfl, cornered hkb HA.out.1 HA.out.2.2.2 HA.out.2.2.1 HA.out.2.1 HM4.out.2.1 HT3.out HM4.out.1 HM3.out.2.2 HM4.out.2.2 (.inl rfl)⟩
            | exact ⟨rfl, cornered hkb HA.out.1 HA.out.2.2.2 HA.out.2.2.1 HA.out.2.1 HM3.out.2.1 HM3.out.1 HT4.out HM3.out.2.2 HM4.out.2.2 (.inl rfl)⟩
      case rest =>
      obtain ⟨rfl, A3, C3, A4, C4, hcb, hs2, hs3, hs4, hf2, hf3, hf4, hmwc⟩ := hcut
      have HC := Lib.hid (And.intro hcb (And.intro hs2 (And.intro hf2 hmwc)))
      have HD := Lib.hid (And.intro hs3 (And.intro hs4 (And.intro hf3 hf4)))
      have hfar := H3.out.2.2.1
      have k0 := HC.out.1.at (i := 0) rfl
      have k1 := HC.out.1.at (i := 1) rfl
      have k2 := HC.out.1.at (i := 2) rfl
      have k3 := HC.out.1.at (i := 3) rfl
      have k4 := HC.out.1.at (i := 4) rfl
      have k5 := HC.out.1.at (i := 5) rfl
      clear hcb hs2 hs3 hs4 hf2 hf3 hf4 hmwc HA KEEP a4 hkbl
      obtain ⟨i0, hi0, hz0, hz1, hz2⟩ := info_parts info_knode
      have HI := Lib.hid (And.intro hi0 (And.intro hz0 (And.intro hz1 hz2)))
      clear hi0 hz0 hz1 hz2
      obtain ⟨x, hx⟩ : ∃ x : KR, x = ⟨⟨A2, C2, p.xs⟩, pl, 0, 0, ⟨A3, C3, bb.mn.xs⟩, ⟨A4, C4, bb.mx.xs⟩⟩ := ⟨_, rfl⟩
      have hm := H1.out.2.2.1
      have hn := H1.out.2.2.2.1
      have hB := H1.out.2.2.2.2
      have hpd := H1.out.2.1.1.1
      obtain ⟨hb, hl, hr, hP, hbl, hbr, hK⟩ := H2.out
      have hmw := HC.out.2.2.2
      have hzc := hmw.size
      have hKc : KS B wc dims (.slice A m c) rs := by rw [hm]; exact hK.mod hmw
      have hown0 : w.ownsRow B 39 6 (.slice A m c) rs.length (rs.flatMap KR.cells) := by rw [hm]; exact hK.own
      have hxo : x.p.Own B wc dims (.slice A m c) := by
        rw [hx]
        refine ⟨⟨hpd, by show Sl wc A2 p.xs.length 1 _; rw [hpd]; exact HC.out.2.1⟩, fun b o e => ⟨by have := HC.out.2.2.1 b o e; omega, fun e2 => ?_⟩⟩
        have h1 := (own_block hown0 e2).2
        have h2 := HC.out.2.2.1 b o e
        omega
      have hxm : x.mn.Own0 B wc dims (.slice A m c) := by
        rw [hx]
        refine .inr ⟨⟨H3.out.2.2.2.1, by show Sl wc A3 bb.mn.xs.length 1 _; rw [H3.out.2.2.2.1]; exact HD.out.1⟩, fun b o e => ⟨by have := HD.out.2.2.1 b o e; omega, fun e2 => ?_⟩⟩
        have h1 := (own_block hown0 e2).2
        have h2 := HD.out.2.2.1 b o e
        omega
      have hxx : x.mx.Own0 B wc dims (.slice A m c) := by
        rw [hx]
        refine .inr ⟨⟨H3.out.2.2.2.2, by show Sl wc A4 bb.mx.xs.length 1 _; rw [H3.out.2.2.2.2]; exact HD.out.2.1⟩, fun b o e => ⟨by have := HD.out.2.2.2 b o e; omega, fun e2 => ?_⟩⟩
        have h1 := (own_block hown0 e2).2
        have h2 := HD.out.2.2.2 b o e
        omega
      have hne : (Value.slice A m c).ownBlock ≠ some g := owns_ne hown0 hb (by decide)
      have hbc := hb.mod hmw (fun h => h)
      have hownc : wc.ownsRow B 39 6 (.slice A m c) m (rs.flatMap KR.cells) := by have := hKc.own; rw [← hm] at this; exact this
      have hTl : KTrB w dims l (.pointer ql) (.slice A m c) := ⟨hl, fun q hq => by rw [hm]; exact hP q (by simp [MT.pts, hq]), hbl, fun k hk => by rw [hm]; exact hfar k (by simp [MT.ks, hk])⟩
      have hTr : KTrB w dims r (.pointer qr) (.slice A m c) := ⟨hr, fun q hq => by rw [hm]; exact hP q (by simp [MT.pts, hq]), hbr, fun k hk => by rw [hm]; exact hfar k (by simp [MT.ks, hk])⟩
      have hw1 : IntKind.i64.wrap ((m : Int) + 1) = (m : Int) + 1 := IntWalk.i64_in _ (by omega)
      have HR : Hid (KS B wc dims (.slice A m c) rs ∧ x.p.Own B wc dims (.slice A m c) ∧ (x.mn.Own0 B wc dims (.slice A m c) ∧ x.mx.Own0 B wc dims (.slice A m c)) ∧ Blk wc g 122 (nodeCells p pl (.pointer ql) (.pointer qr) (some bb)) ∧ wc.ownsRow B 39 6 (.slice A m c) m (rs.flatMap KR.cells) ∧ KTrB w dims l (.pointer ql) (.slice A m c) ∧ KTrB w dims r (.pointer qr) (.slice A m c) ∧ w.ownsRow B 39 6 (.slice A m c) rs.length (rs.flatMap KR.cells) ∧ (Value.slice A m c).ownBlock ≠ some g) := ⟨hKc, hxo, ⟨hxm, hxx⟩, hbc, hownc, hTl, hTr, hown0, hne⟩
      have HX := Lib.hid hx
      have HZ : Hid (w.heap.size ≤ wc.heap.size ∧ B ≤ w.heap.size) := ⟨hzc, hB⟩
      have hcells : x.cells = [.slice A2 dims C2, .int .i64 pl, .int .i64 0, .int .i64 0, .slice A3 dims C3, .slice A4 dims C4] := by rw [hx]; show [Value.slice A2 p.xs.length C2, _, _, _, Value.slice A3 bb.mn.xs.length C3, Value.slice A4 bb.mx.xs.length C4] = _; rw [hpd, H3.out.2.2.2.1, H3.out.2.2.2.2]
      have HCX := Lib.hid hcells
      have tok1 : True := trivial
      clear hx hm hn hpd hb hl hr hP hbl hbr hK hmw hKc hown0 hxo hxm hxx hne hfar hbc hownc hTl hTr hcells hw1
      have tok2 : True := trivial
      have E1 : Hid ((rs ++ [x]).length = m + 1) := by show _ = _; rw [List.length_append, List.length_singleton, ← H1.out.2.2.1]
      have hm0 : (0 : Int) ≤ m := by omega
      go_wp2_with (first
        | (at_builtin; refine wpList_append_lies _ (by rfl) (.tmp 51) (.tmp 53) 28 (by rfl) B 39 i0 _ 6 96 Try.underlying28 HI.out.1 HI.out.2.1 HI.out.2.2.1 HI.out.2.2.2 rfl (by omega) (.slice A m c) m (rs.flatMap KR.cells) (by rfl) (HR.out.2.2.2.2.1.alloc _) ⟨wc.heap.size, 0, none⟩ 1 1 [.slice A2 dims C2, .int .i64 pl, .int .i64 0, .int .i64 0, .slice A3 dims C3, .slice A4 dims C4] (by rfl) (by rfl) (World.news_of_block (cs := #[.slice A2 dims C2, .int .i64 pl, .int .i64 0, .int .i64 0, .slice A3 dims C3, .slice A4 dims C4]) (t := 39) (fr := (0, 0)) (heap_alloc_new wc _)) (by simp [Value.oneCell']) (by omega) (by unfold maxLen; omega) (by omega) (by simp; omega) (wc.heap.size + 1) (by simp) ?_; intro gg cap w3 hown hgrow hat hlt3; have HP := Lib.hid (knB_push hdm.1 H1.out.2.2.1 HC.out.2.2.2 HR.out.1 ⟨HR.out.2.1, HR.out.2.2.1.1, HR.out.2.2.1.2⟩ HR.out.2.2.2.1 HR.out.2.2.2.2.2.1 HR.out.2.2.2.2.2.2.1 HR.out.2.2.2.2.2.2.2.2 (by rw [HCX.out]; exact hown) hgrow hat); clear hown hgrow hat; have g2 : w3.cell? ⟨g, 2, none⟩ = some (.pointer ql) := HP.out.1.blk.at (i := 2) rfl)
        | (go_at_call 34; have _t := tok2; clear _t tok2; refine (HIL.out _ (.pointer ql) (.slice (some ⟨gg, 0, none⟩) (m + 1) cap) (rs ++ [x]) HP.out.1.tl HP.out.1.ks (by have := HP.out.2.2.size; have := HZ.out; omega) (by have h1 := H1.out.2.2.2.1; rw [List.length_append, List.length_singleton]; simp only [MT.count] at h1; omega)).mono ?_; rintro _ w4 ⟨v1, rs1, he, q1, q2, q3, q4, ⟨A1, c1, q5⟩⟩; rw [E1.out] at he q2; subst he; obtain ⟨n1, hn1⟩ : ∃ n1, n1 = ((rs ++ [x]) ++ rs1).length := ⟨_, rfl⟩; rw [← hn1] at q5; subst q5; have HQ1 := Lib.hid (And.intro (HP.out.1.step hdm.1 q1 q3 q4) (And.intro q2 (And.intro q3 (And.intro q4 hn1)))); clear q1 q2 q3 q4 hn1; have g3 : w4.cell? ⟨g, 3, none⟩ = some (.pointer qr) := HQ1.out.1.blk.at (i := 3) rfl)
        | (go_at_call 34; refine (HIR.out _ (.pointer qr) (.slice A1 n1 c1) ((rs ++ [x]) ++ rs1) HQ1.out.1.tr HQ1.out.1.ks (by have := HP.out.2.2.size; have := HQ1.out.2.2.1.size; have := HZ.out; omega) (by have h1 := H1.out.2.2.2.1; have h2 := congrArg List.length HQ1.out.2.1; rw [List.length_map, MT.flat_len] at h2; rw [List.length_append, List.length_append, List.length_singleton]; simp only [MT.count] at h1; omega)).mono ?_; rintro _ w5 ⟨v2, rs2, he, q1, q2, q3, q4, -⟩; rw [kn_len2 E1.out HQ1.out.2.1] at he q2; subst he; obtain ⟨n2, hn2⟩ : ∃ n2, n2 = (((rs ++ [x]) ++ rs1) ++ rs2).length := ⟨_, rfl⟩; obtain ⟨gb, c2, q5, -, -⟩ := q1.own.form (by rw [← hn2]; have := kn_pos hn2; omega); rw [← hn2] at q5; subst q5; have hget := kn_get rs1 rs2 x H1.out.2.2.1; have y2 := (q1.cell hn2 hget (j := 2) (by omega)); have y3 := (q1.cell hn2 hget (j := 3) (by omega)); rw [HCX.out] at y2 y3; have hmn : (m : Int) < n2 := (by have := kn_lt H1.out.2.2.1 hn2; omega); have HQ2 := Lib.hid (And.intro q1 (And.intro q2 (And.intro q3 (And.intro q4 hn2)))); clear q1 q2 q3 q4 hn2 hget; have y2' := y2.1; have z2' := y2.2; have y3' := y3.1; have z3' := y3.2; simp only [List.getElem?_cons_succ, List.getElem?_cons_zero] at y2' y3'; clear y2 y3))
      go_ret2
      exact knB_end (x := x) H1.out.2.2.1 (by rw [HX.out]; rfl) HZ.out.2 HP.out.2.2 HP.out.2.1 HQ1.out.2.2.1 HQ1.out.2.2.2.1 HQ2.out.2.2.1 HQ2.out.2.2.2.1 HQ1.out.2.1 HQ2.out.2.1 HQ2.out.1 HQ2.out.2.2.2.2
end Go.Proofs.Ytmeooadgdagiiaa
