/- Steps of a proof, one behind another: The walks of Compare and insert over a k-d tree in memory. Points that are inserted into a k-d tree, as plain functions. The walks of New, Insert and Len of a k-d tree, without boxes. Rows of nodes that the thin package writes a k-d tree down in. Conditions: as each theorem says. -/
import Derived.Test.YtmeooadgdagiiaaMr7
import Derived.Deep.RegionHeld3
import Derived.Deep.DrawnRows
import Derived.Deep.DeepCutAuto
import Derived.Deep.QuietTactic
import Derived.IntWalk

namespace Go.Proofs.Ytmeooadgdagiiaa
open Go.RowKit Lox
set_option linter.unusedVariables false
attribute [local go_sem] run_store_flt run_store_fn
attribute [local go_sem ↓] Go.wp_at_zero Go.wp_at_succ

theorem run_assert_pt (v : Value) (w : World) : (Instr.typeAssert (.iface 73 v) 92 73 false).run Try.prog w = .ok v w := by kernel_rfl

/-- A point of whole numbers. -/
def TP.Gr (p : TP) : Prop := ∀ d, d < p.xs.length → ∃ a, Wh (p.n d) a

theorem TP.gr_of {p : TP} (h : ∀ x ∈ p.xs, ∃ n, Wh x n) : p.Gr := fun d hd => by
  have e : p.n d = p.xs[d] := by simp [TP.n, hd]
  rw [e]
  exact h _ (List.getElem_mem hd)

set_option maxHeartbeats 1000000 in
theorem pcompare_at (w : World) (dims d : Nat) (D : Int) (p q : TP) (a b : Int) (hD : D = d) (hp : p.Ok w dims) (hq : q.Ok w dims) (ha : Wh (p.n d) a) (hb : Wh (q.n d) b) (hd : d < dims) (hdm : dims ≤ 1099511627776) :
    Calls Try.prog 133 #[.slice p.A dims p.c, .iface 73 (.slice q.A dims q.c), .int .i64 D] w fun e w' => (∃ r, e = .returned (.float .f64 r) ∧ Gd 0 r (a - b)) ∧ Mod (fun _ => False) w w' := by
  subst hD
  have hta := run_assert_pt
  obtain ⟨l1, s1, z1⟩ := hp
  obtain ⟨l2, s2, z2⟩ := hq
  rw [l1] at z1
  rw [l2] at z2
  obtain ⟨b1, o1, e1, r1⟩ := z1 (by omega)
  obtain ⟨b2, o2, e2, r2⟩ := z2 (by omega)
  have k1 : w.cell? ⟨b1, o1 + d, none⟩ = some (.float .f64 (p.n d)) := r1 d _ (by
    have hh : d < p.xs.length := by omega
    simp [flts, TP.n, hh])
  have k2 : w.cell? ⟨b2, o2 + d, none⟩ = some (.float .f64 (q.n d)) := r2 d _ (by
    have hh : d < q.xs.length := by omega
    simp [flts, TP.n, hh])
  have d1 : (0 : Int) ≤ d := by omega
  have d2 : (d : Int) < dims := by omega
  obtain ⟨r, hr, hg⟩ := Gd.sub ha.1 hb.1 (by omega) (by have := ha.2; have := hb.2; omega)
  have hsub : ∀ (t : TypeId) (w : World), (binOp .sub t (.float .f64 (p.n d)) (.float .f64 (q.n d))).run Try.prog w = .ok (.float .f64 r) w := fun t w => run_float_arith w .sub t .f64 _ _ r hr
  rw [e1, e2]
  have HG := Lib.hid hg
  clear s1 s2 z1 z2 r1 r2 e1 e2 l1 l2 hr hg ha hb
  generalize p.n d = x at k1 hsub
  generalize q.n d = y at k2 hsub
  go_enter Try.func133, Try.ntmps133
  go_wp2
  go_region
  all_goals (go_wp2; go_ret)
  all_goals exact ⟨⟨r, rfl, HG.out⟩, (Mod.refl _ w).drew⟩

theorem _root_.Lox.Mod.drewN {S : Nat → Prop} {a w : World} (h : Mod S a w) (n : Nat) : Mod S a (w.drewN n) := ⟨h.os, h.tape, h.output, h.size, h.block⟩

theorem TP.Ok.drew {w : World} {dims : Nat} {p : TP} (h : p.Ok w dims) : p.Ok w.drew dims := h

theorem TP.Ok.mod0 {w w' : World} {dims : Nat} {p : TP} (h : p.Ok w dims) (hm : Mod (fun _ => False) w w') : p.Ok w' dims := ⟨h.1, h.2.mod hm⟩

/-- The program's look: the first one's number is not above the second one's. -/
theorem le_look {r : Nat} {a b : Int} (hr : Gd 0 r (a - b)) : (FloatKind.f64.format.order r 0 == some .lt || FloatKind.f64.format.order r 0 == some .eq) = decide (a ≤ b) := by
  have hz : Gd 0 0 0 := gd0_of_is is_zero
  rw [hr.lt hz, hr.eq hz]
  by_cases h : a ≤ b
  · rw [decide_eq_true h]
    rcases Int.lt_or_eq_of_le h with h1 | h1
    · rw [decide_eq_true (by omega : a - b < 0)]; rfl
    · rw [decide_eq_true (by omega : a - b = 0), Bool.or_true]
  · rw [decide_eq_false h, decide_eq_false (by omega), decide_eq_false (by omega)]; rfl

theorem leB_int {d : Nat} {p q : TP} {a b : Int} (ha : Wh (p.n d) a) (hb : Wh (q.n d) b) : leB d p q = decide (a ≤ b) := by
  unfold leB
  rw [hb.1.lt ha.1]
  by_cases h : a ≤ b
  · rw [decide_eq_true h, decide_eq_false (by omega)]; rfl
  · rw [decide_eq_false h, decide_eq_true (by omega)]; rfl

/-- What insert tells. -/
def InsTold (dims d : Nat) (q : TP) (mt : MT) (w : World) (e : Ending) (w' : World) : Prop :=
  ∃ (v' : Value) (mt' : MT), e = .returned v' ∧ mt'.In w' v' ∧ mt'.T = KB.ins leB dims q d mt.T ∧ mt'.gs.Nodup ∧ (∀ g ∈ mt'.gs, g ∈ mt.gs ∨ w.heap.size ≤ g) ∧ (mt.bare → mt'.bare) ∧ Mod (fun k => k ∈ mt.gs) w w'

theorem ins_new (dims d : Nat) (q : TP) (w : World) (n : Nat) (hn : q.xs.length = n) : InsTold dims d q .nil w (.returned (.pointer (some ⟨w.heap.size, 0, none⟩))) (w.alloc (.cells #[.iface 73 (.slice q.A n q.c), .int .i64 d, .pointer none, .pointer none, .pointer none] 122)) := by
  subst hn
  refine ⟨_, .node w.heap.size q d none .nil .nil, rfl, ⟨rfl, .pointer none, .pointer none, Blk.new' _ _ _, rfl, rfl⟩, rfl, by simp [MT.gs], fun g hg => ?_, fun _ => ⟨rfl, trivial, trivial⟩, (Mod.refl _ _).alloc _⟩
  simp [MT.gs] at hg
  exact .inr (by omega)

theorem ins_left {dims d g pl : Nat} {q p : TP} {bx : Option BX} {l r lt : MT} {w w1 w2 : World} {lv rv v' : Value} (hb : Blk w g 122 (nodeCells p pl lv rv bx)) (hr : r.In w rv) (hN : (g :: (l.gs ++ r.gs)).Nodup) (hgl : ∀ k ∈ l.gs, k < w.heap.size)
    (hle : leB pl q p = true) (h01 : Mod (fun _ => False) w w1) (hi : lt.In w2 v') (hT : lt.T = KB.ins leB dims q ((pl + 1) % dims) l.T) (hn : lt.gs.Nodup) (hg : ∀ g ∈ lt.gs, g ∈ l.gs ∨ w1.heap.size ≤ g) (hba : l.bare → lt.bare) (h12 : Mod (fun k => k ∈ l.gs) w1 w2) :
    InsTold dims d q (.node g p pl bx l r) w (.returned (.pointer (some ⟨g, 0, none⟩))) (w2.setCell ⟨g, 2, none⟩ v') := by
  obtain ⟨hN1, hN2⟩ := List.nodup_cons.1 hN
  obtain ⟨hN3, hN4, hN5⟩ := List.nodup_append.1 hN2
  have h02 : Mod (fun k => k ∈ l.gs) w w2 := (h01.mono (fun _ _ h => h.elim)).trans h12
  have s1 := h01.size
  have hgw := hb.lt
  have gnl : g ∉ l.gs := fun h => hN1 (List.mem_append.2 (.inl h))
  have gnr : g ∉ r.gs := fun h => hN1 (List.mem_append.2 (.inr h))
  have gnt : g ∉ lt.gs := fun h => by
    rcases hg g h with h | h
    · exact gnl h
    · omega
  have hrl := hr.lt
  have hb2 : Blk w2 g 122 (nodeCells p pl lv rv bx) := hb.mod h02 gnl
  refine ⟨_, .node g p pl bx lt r, rfl, ⟨rfl, v', rv, ?_, hi.keep fun k hk _ => Below.heap_setCell _ _ _ _ (fun (e : k = g) => gnt (e ▸ hk)), (hr.mod h02 (fun k hk hk2 => hN5 k hk2 k hk rfl)).keep fun k hk _ => Below.heap_setCell _ _ _ _ (fun (e : k = g) => gnr (e ▸ hk))⟩, ?_, ?_, ?_, fun h => ⟨h.1, hba h.2.1, h.2.2⟩, ?_⟩
  · have := hb2.set 2 v'
    exact this
  · show KB.T.node p pl lt.T r.T = _
    rw [hT]
    simp only [MT.T, KB.ins, hle, if_true]
  · show (g :: (lt.gs ++ r.gs)).Nodup
    refine List.nodup_cons.2 ⟨fun h => ?_, List.nodup_append.2 ⟨hn, hN4, fun a ha b hb' e => ?_⟩⟩
    · rcases List.mem_append.1 h with h | h
      · exact gnt h
      · exact gnr h
    · subst e
      rcases hg a ha with h | h
      · exact hN5 a h a hb' rfl
      · have := hrl a hb'; omega
  · intro k hk
    rcases List.mem_cons.1 hk with rfl | hk
    · exact .inl (by simp [MT.gs])
    · rcases List.mem_append.1 hk with hk | hk
      · rcases hg k hk with h | h
        · exact .inl (by simp [MT.gs, h])
        · exact .inr (by omega)
      · exact .inl (by simp [MT.gs, hk])
  · exact (h02.mono (fun k _ h => by simp [MT.gs, h])).set (.inl (by simp [MT.gs])) _

theorem ins_right {dims d g pl : Nat} {q p : TP} {bx : Option BX} {l r rt : MT} {w w1 w2 : World} {lv rv v' : Value} (hb : Blk w g 122 (nodeCells p pl lv rv bx)) (hl : l.In w lv) (hN : (g :: (l.gs ++ r.gs)).Nodup) (hgr : ∀ k ∈ r.gs, k < w.heap.size)
    (hle : leB pl q p = false) (h01 : Mod (fun _ => False) w w1) (hi : rt.In w2 v') (hT : rt.T = KB.ins leB dims q ((pl + 1) % dims) r.T) (hn : rt.gs.Nodup) (hg : ∀ g ∈ rt.gs, g ∈ r.gs ∨ w1.heap.size ≤ g) (hba : r.bare → rt.bare) (h12 : Mod (fun k => k ∈ r.gs) w1 w2) :
    InsTold dims d q (.node g p pl bx l r) w (.returned (.pointer (some ⟨g, 0, none⟩))) (w2.setCell ⟨g, 3, none⟩ v') := by
  obtain ⟨hN1, hN2⟩ := List.nodup_cons.1 hN
  obtain ⟨hN3, hN4, hN5⟩ := List.nodup_append.1 hN2
  have h02 : Mod (fun k => k ∈ r.gs) w w2 := (h01.mono (fun _ _ h => h.elim)).trans h12
  have s1 := h01.size
  have hgw := hb.lt
  have gnl : g ∉ l.gs := fun h => hN1 (List.mem_append.2 (.inl h))
  have gnr : g ∉ r.gs := fun h => hN1 (List.mem_append.2 (.inr h))
  have gnt : g ∉ rt.gs := fun h => by
    rcases hg g h with h | h
    · exact gnr h
    · omega
  have hll := hl.lt
  have hb2 : Blk w2 g 122 (nodeCells p pl lv rv bx) := hb.mod h02 gnr
  refine ⟨_, .node g p pl bx l rt, rfl, ⟨rfl, lv, v', ?_, (hl.mod h02 (fun k hk hk2 => hN5 k hk k hk2 rfl)).keep fun k hk _ => Below.heap_setCell _ _ _ _ (fun (e : k = g) => gnl (e ▸ hk)), hi.keep fun k hk _ => Below.heap_setCell _ _ _ _ (fun (e : k = g) => gnt (e ▸ hk))⟩, ?_, ?_, ?_, fun h => ⟨h.1, h.2.1, hba h.2.2⟩, ?_⟩
  · have := hb2.set 3 v'
    exact this
  · show KB.T.node p pl l.T rt.T = _
    rw [hT]
    simp only [MT.T, KB.ins, hle, if_false, Bool.false_eq_true]
  · show (g :: (l.gs ++ rt.gs)).Nodup
    refine List.nodup_cons.2 ⟨fun h => ?_, List.nodup_append.2 ⟨hN3, hn, fun a ha b hb' e => ?_⟩⟩
    · rcases List.mem_append.1 h with h | h
      · exact gnl h
      · exact gnt h
    · subst e
      rcases hg a hb' with h | h
      · exact hN5 a ha a h rfl
      · have := hll a ha; omega
  · intro k hk
    rcases List.mem_cons.1 hk with rfl | hk
    · exact .inl (by simp [MT.gs])
    · rcases List.mem_append.1 hk with hk | hk
      · exact .inl (by simp [MT.gs, hk])
      · rcases hg k hk with h | h
        · exact .inl (by simp [MT.gs, h])
        · exact .inr (by omega)
  · exact (h02.mono (fun k _ h => by simp [MT.gs, h])).set (.inl (by simp [MT.gs])) _

set_option maxRecDepth 100000 in
set_option maxHeartbeats 8000000 in
theorem insert_at (dims : Nat) (hdm : 0 < dims ∧ dims ≤ 1099511627776) (q : TP) (hqg : q.Gr) (mt : MT) :
    ∀ (w : World) (v : Value) (d : Nat) (D : Int), D = d → mt.In w v → mt.gs.Nodup → q.Ok w dims → (∀ p ∈ mt.pts, p.Ok w dims ∧ p.Gr) → mt.T.Each (fun _ d => d < dims) →
      Calls Try.prog 64 #[v, .iface 73 (.slice q.A dims q.c), .int .i64 D] w (InsTold dims d q mt w) := by
  have m1 := kmeth_dims
  have m2 := kmeth_compare
  have m3 := kahead_compare
  induction mt with
  | nil =>
    intro w v d D hD hI hN hq hP hE
    subst hD
    have hv : v = .pointer none := hI
    subst hv
    have hql := hq.1
    have H := Lib.hid hql
    clear hI hN hq hP hE hql
    go_enter Try.func64, Try.ntmps64
    go_wp2
    go_ret
    exact ins_new dims d q w dims H.out
  | node g p pl bx l r ihl ihr =>
    intro w v d D hD hI hN hq hP hE
    subst hD
    obtain ⟨hv, lv, rv, hb, hl, hr⟩ := hI
    subst hv
    obtain ⟨ql, rfl⟩ := hl.ptr
    obtain ⟨qr, rfl⟩ := hr.ptr
    have hpp := hP p (by simp [MT.pts])
    obtain ⟨hpl, hEl, hEr⟩ := hE
    obtain ⟨a, ha⟩ := hqg pl (by rw [hq.1]; exact hpl)
    obtain ⟨b, hb2⟩ := hpp.2 pl (by rw [hpp.1.1]; exact hpl)
    have hle0 := leB_int (d := pl) (p := q) (q := p) ha hb2
    have c0 : w.cell? ⟨g, 0, none⟩ = some (.iface 73 (.slice p.A dims p.c)) := by rw [← hpp.1.1]; exact hb.at (i := 0) rfl
    have c1 : w.cell? ⟨g, 1, none⟩ = some (.int .i64 pl) := hb.at (i := 1) rfl
    have hgl := hb.lt
    have HIL := Lib.hid ihl
    have HIR := Lib.hid ihr
    have hnp : ((pl : Int) + 1) % (dims : Int) = (((pl + 1) % dims : Nat) : Int) := by simp
    have HNP := Lib.hid hnp
    have HQ := Lib.hid hq
    have HPP := Lib.hid hpp
    have HAB := Lib.hid (And.intro ha (And.intro hb2 hle0))
    have HB := Lib.hid (And.intro hb (And.intro hl (And.intro hr (And.intro hN (And.intro hP (And.intro hEl hEr))))))
    have d0 : (pl : Int) < dims := by omega
    have d1 : (0 : Int) < dims := by omega
    have d2 : ((dims : Int) == 0) = false := by
      have : (dims : Int) ≠ 0 := by omega
      simpa using this
    have d3 : IntKind.i64.wrap ((pl : Int) + 1) = (pl : Int) + 1 := IntWalk.i64_in _ (by omega)
    clear ihl ihr hnp hq hpp ha hb2 hle0 hb hl hr hN hP hEl hEr
    have CMP : Hid (∀ w1 : World, Mod (fun _ => False) w w1 → Calls Try.prog 133 #[.slice q.A dims q.c, .iface 73 (.slice p.A dims p.c), .int .i64 pl] w1 fun e w' => (∃ r, e = .returned (.float .f64 r) ∧ (FloatKind.f64.format.order r 0 == some .lt || FloatKind.f64.format.order r 0 == some .eq) = decide (a ≤ b)) ∧ Mod (fun _ => False) w w') := by
      intro w1 hm
      exact (pcompare_at w1 dims pl pl q p a b rfl (HQ.out.mod0 hm) (HPP.out.1.mod0 hm) HAB.out.1 HAB.out.2.1 hpl hdm.2).mono fun e w' ⟨⟨r, he, hr⟩, hm2⟩ => ⟨⟨r, he, le_look hr⟩, hm.trans hm2⟩
    by_cases hab : a ≤ b
    · have hdec : decide (a ≤ b) = true := decide_eq_true hab
      rw [hdec] at CMP HAB
      clear hdec hab
      go_enter Try.func64, Try.ntmps64
      go_wp2_with fail
      go_quiet ((go_at_call 134; exact Calls.quiet_of_same ((pdims_at _ q.A dims q.c).mono (fun e w' h => ⟨h.1, h.2.symm⟩))))
      go_wp2_with fail
      go_region_held3 (fun w' => w'.cell? ⟨g, 0, none⟩ = some (.iface 73 (.slice p.A dims p.c)) ∧ w'.cell? ⟨g, 1, none⟩ = some (.int .i64 pl)) (first | exact ⟨c0, c1⟩ | exact ⟨(hm2.cell hgl (fun h => h)).trans c0, (hm2.cell hgl (fun h => h)).trans c1⟩)
        (first | (go_at_call 133; refine (CMP.out _ (by first | exact ((Mod.refl _ _).drewN _).drew | exact (Mod.refl _ _).drewN _)).mono ?_; rintro _ w2 ⟨⟨fr, rfl, hfr⟩, hm2⟩))
      have k2 : w2.cell? ⟨g, 2, none⟩ = some (.pointer ql) := (HB.out.1.mod hm2 (fun h => h)).at (i := 2) rfl
      go_wp2_with (go_at_call 64; refine (HIL.out _ (.pointer ql) ((pl + 1) % dims) _ HNP.out (HB.out.2.1.mod hm2 (fun _ _ h => h)) (List.nodup_append.1 (List.nodup_cons.1 HB.out.2.2.2.1).2).1 (HQ.out.mod0 hm2) (fun p' hp' => ⟨(HB.out.2.2.2.2.1 p' (by simp [MT.pts, hp'])).1.mod0 hm2, (HB.out.2.2.2.2.1 p' (by simp [MT.pts, hp'])).2⟩) HB.out.2.2.2.2.2.1).mono ?_; rintro _ w3 ⟨v', nt, rfl, i1, i2, i3, i4, i5, i6⟩; obtain ⟨qv, rfl⟩ := i1.ptr; have y2 : w3.cell? ⟨g, 2, none⟩ = some (.pointer ql) := ((HB.out.1.mod hm2 (fun h => h)).mod i6 (fun h => (List.nodup_cons.1 HB.out.2.2.2.1).1 (List.mem_append.2 (.inl h)))).at (i := 2) rfl; have z2 : w3.frozen? ⟨g, 2, none⟩ = false := ((HB.out.1.mod hm2 (fun h => h)).mod i6 (fun h => (List.nodup_cons.1 HB.out.2.2.2.1).1 (List.mem_append.2 (.inl h)))).frozen 2; have HT := Lib.hid (And.intro i1 (And.intro i2 (And.intro i3 (And.intro i4 (And.intro i5 i6))))); clear i1 i2 i3 i4 i5 i6)
      go_ret
      exact ins_left HB.out.1 HB.out.2.2.1 HB.out.2.2.2.1 (HB.out.2.1.lt) HAB.out.2.2 hm2 HT.out.1 HT.out.2.1 HT.out.2.2.1 HT.out.2.2.2.1 HT.out.2.2.2.2.1 HT.out.2.2.2.2.2
    · have hdec : decide (a ≤ b) = false := decide_eq_false hab
      rw [hdec] at CMP HAB
      clear hdec hab
      go_enter Try.func64, Try.ntmps64
      go_wp2_with fail
      go_quiet ((go_at_call 134; exact Calls.quiet_of_same ((pdims_at _ q.A dims q.c).mono (fun e w' h => ⟨h.1, h.2.symm⟩))))
      go_wp2_with fail
      go_region_held3 (fun w' => w'.cell? ⟨g, 0, none⟩ = some (.iface 73 (.slice p.A dims p.c)) ∧ w'.cell? ⟨g, 1, none⟩ = some (.int .i64 pl)) (first | exact ⟨c0, c1⟩ | exact ⟨(hm2.cell hgl (fun h => h)).trans c0, (hm2.cell hgl (fun h => h)).trans c1⟩)
        (first | (go_at_call 133; refine (CMP.out _ (by first | exact ((Mod.refl _ _).drewN _).drew | exact (Mod.refl _ _).drewN _)).mono ?_; rintro _ w2 ⟨⟨fr, rfl, hfr⟩, hm2⟩))
      have k2 : w2.cell? ⟨g, 3, none⟩ = some (.pointer qr) := (HB.out.1.mod hm2 (fun h => h)).at (i := 3) rfl
      go_wp2_with (go_at_call 64; refine (HIR.out _ (.pointer qr) ((pl + 1) % dims) _ HNP.out (HB.out.2.2.1.mod hm2 (fun _ _ h => h)) (List.nodup_append.1 (List.nodup_cons.1 HB.out.2.2.2.1).2).2.1 (HQ.out.mod0 hm2) (fun p' hp' => ⟨(HB.out.2.2.2.2.1 p' (by simp [MT.pts, hp'])).1.mod0 hm2, (HB.out.2.2.2.2.1 p' (by simp [MT.pts, hp'])).2⟩) HB.out.2.2.2.2.2.2).mono ?_; rintro _ w3 ⟨v', nt, rfl, i1, i2, i3, i4, i5, i6⟩; obtain ⟨qv, rfl⟩ := i1.ptr; have y2 : w3.cell? ⟨g, 3, none⟩ = some (.pointer qr) := ((HB.out.1.mod hm2 (fun h => h)).mod i6 (fun h => (List.nodup_cons.1 HB.out.2.2.2.1).1 (List.mem_append.2 (.inr h)))).at (i := 3) rfl; have z2 : w3.frozen? ⟨g, 3, none⟩ = false := ((HB.out.1.mod hm2 (fun h => h)).mod i6 (fun h => (List.nodup_cons.1 HB.out.2.2.2.1).1 (List.mem_append.2 (.inr h)))).frozen 3; have HT := Lib.hid (And.intro i1 (And.intro i2 (And.intro i3 (And.intro i4 (And.intro i5 i6))))); clear i1 i2 i3 i4 i5 i6)
      go_ret
      exact ins_right HB.out.1 HB.out.2.1 HB.out.2.2.2.1 (HB.out.2.2.1.lt) HAB.out.2.2 hm2 HT.out.1 HT.out.2.1 HT.out.2.2.1 HT.out.2.2.2.1 HT.out.2.2.2.2.1 HT.out.2.2.2.2.2
end Go.Proofs.Ytmeooadgdagiiaa

namespace Lox.KB
variable {α : Type}

theorem ins_each (le : Nat → α → α → Bool) (dims : Nat) (hd : 0 < dims) (p : α) : ∀ (t : T α) (d : Nat), d < dims → t.Each (fun _ d => d < dims) → (ins le dims p d t).Each (fun _ d => d < dims) := by
  intro t
  induction t with
  | nil => intro d hdd _; exact ⟨hdd, trivial, trivial⟩
  | node q pl l r ihl ihr =>
    intro d hdd h
    unfold ins
    split
    · exact ⟨h.1, ihl _ (Nat.mod_lt _ hd) h.2.1, h.2.2⟩
    · exact ⟨h.1, h.2.1, ihr _ (Nat.mod_lt _ hd) h.2.2⟩

theorem ins_perm (le : Nat → α → α → Bool) (dims : Nat) (p : α) : ∀ (t : T α) (d : Nat), (ins le dims p d t).all.Perm (p :: t.all) := by
  intro t
  induction t with
  | nil => intro d; exact List.Perm.refl _
  | node q pl l r ihl ihr =>
    intro d
    unfold ins
    split
    · simp only [T.all]
      exact (ihl _).append_right _
    · simp only [T.all]
      have h := (ihr ((pl + 1) % dims)).cons q
      have h2 := h.append_left l.all
      refine h2.trans ?_
      have h3 : (q :: p :: r.all).Perm (p :: q :: r.all) := List.Perm.swap _ _ _
      refine (h3.append_left l.all).trans ?_
      exact List.perm_middle

theorem inss_each (le : Nat → α → α → Bool) (dims : Nat) (hd : 0 < dims) : ∀ (ps : List α) (t : T α), t.Each (fun _ d => d < dims) → (inss le dims t ps).Each (fun _ d => d < dims) := by
  intro ps
  induction ps with
  | nil => intro t h; exact h
  | cons p ps ih => intro t h; exact ih _ (ins_each le dims hd p t 0 hd h)

theorem inss_perm (le : Nat → α → α → Bool) (dims : Nat) : ∀ (ps : List α) (t : T α), (inss le dims t ps).all.Perm (t.all ++ ps) := by
  intro ps
  induction ps with
  | nil => intro t; rw [List.append_nil]; exact List.Perm.refl _
  | cons p ps ih =>
    intro t
    refine (ih (ins le dims p 0 t)).trans ?_
    refine ((ins_perm le dims p t 0).append_right ps).trans ?_
    exact (List.perm_middle (l₁ := t.all) (l₂ := ps) (a := p)).symm

theorem inss_snoc (le : Nat → α → α → Bool) (dims : Nat) (t : T α) (ps : List α) (p : α) : inss le dims t (ps ++ [p]) = ins le dims p 0 (inss le dims t ps) := by
  unfold inss
  rw [List.foldl_append]
  rfl
end Lox.KB

namespace Go.Proofs.Ytmeooadgdagiiaa
open Go.RowKit Lox
set_option linter.unusedVariables false
attribute [local go_sem] run_store_flt run_store_fn

theorem run_assert_bd (S : Value) (lc : Nat) (w : World) : (Instr.typeAssert (.iface 71 (picksV S lc)) 114 116 true).run Try.prog w = .ok (.tuple #[.iface 71 (picksV S lc), .bool true]) w := by kernel_rfl
theorem run_assert_ext (A : Option Addr) (n c : Nat) (w : World) : (Instr.typeAssert (.iface 73 (.slice A n c)) 92 124 true).run Try.prog w = .ok (.tuple #[.iface 73 (.slice A n c), .bool true]) w := by kernel_rfl

/-- A tree's struct, and its nodes. -/
structure TrIn (w : World) (dims tb n : Nat) (mt : MT) : Prop where
  tree : ∃ v, Blk w tb 79 [v, .int .i64 n] ∧ mt.In w v
  nodup : mt.gs.Nodup
  apart : tb ∉ mt.gs
  bare : mt.bare
  each : mt.T.Each (fun _ d => d < dims)
  pts : ∀ p ∈ mt.pts, p.Ok w dims ∧ p.Gr

/-- What New tells. -/
def NewTold (dims pb lc n : Nat) (l : List TP) (ks : List Nat) (w : World) (e : Ending) (w' : World) : Prop :=
  ∃ (tb : Nat) (mt : MT), e = .returned (.pointer (some ⟨tb, 0, none⟩)) ∧ TrIn w' dims tb n mt ∧ mt.T = (KB.build leB dims n l ks 0).1 ∧ w.heap.size ≤ tb ∧ (∀ g ∈ mt.gs, w.heap.size ≤ g) ∧ Mod (fun k => k = pb ∨ k = lc) w w'

theorem new_end {dims pb lc n : Nat} {l : List TP} {ks : List Nat} {w w1 w2 : World} {v : Value} {mt : MT} (hd : 0 < dims) (hl : l.length ≤ n) (hW : WinOk w dims pb lc l) (hg : ∀ p ∈ l, p.Gr)
    (h1 : mt.In w1 v) (h2 : mt.T = (KB.build leB dims n l ks 0).1) (h3 : mt.gs.Nodup) (h4 : ∀ g ∈ mt.gs, w.heap.size ≤ g) (h5 : mt.bare) (h6 : Mod (fun k => k = pb ∨ k = lc) w w1) (h12 : Mod (fun _ => False) w1 w2) :
    NewTold dims pb lc n l ks w (.returned (.pointer (some ⟨w2.heap.size, 0, none⟩))) (w2.alloc (.cells #[v, .int .i64 n] 79)) := by
  have s6 := h6.size
  have s12 := h12.size
  have hin : mt.In w2 v := h1.mod h12 (fun _ _ h => h)
  have hlt := hin.lt
  obtain ⟨a1, a2, a3⟩ := KB.build_all leB dims hd n l ks 0 hl hd
  have hm2 : Mod (fun k => k = pb ∨ k = lc) w (w2.alloc (.cells #[v, .int .i64 n] 79)) := (h6.trans (h12.mono (fun _ _ h => h.elim))).alloc _
  refine ⟨w2.heap.size, mt, rfl, ⟨⟨v, Blk.new' _ _ _, hin.mod ((Mod.refl (fun _ => False) w2).alloc _) (fun _ _ h => h)⟩, h3, fun h => ?_, h5, by rw [h2]; exact a3, fun p hp => ?_⟩, h2, by omega, h4, hm2⟩
  · have := hlt _ h; omega
  · rw [MT.pts_all, h2] at hp
    have hp := a1.mem_iff.1 hp
    exact ⟨((hW.mod hm2).1 p hp).1, hg p hp⟩

set_option maxHeartbeats 2000000 in
theorem build0_at (w : World) (c lc : Nat) (X : Option Addr) :
    Calls Try.prog 62 #[.iface 71 (picksV (.slice X 0 c) lc), .int .i64 0] w fun e w' => e = .returned (.pointer none) ∧ Mod (fun _ => False) w w' := by
  have m1 := kmeth_len
  go_enter Try.func62, Try.ntmps62
  go_wp2_with (go_at_call 124; refine (klen_at _ X 0 c lc).mono ?_; rintro _ w1 ⟨rfl, hm1⟩)
  go_ret
  exact ⟨rfl, hm1⟩

/-- What New asks of build. -/
def Built (dims pb lc n : Nat) (l : List TP) (ks : List Nat) (w : World) (e : Ending) (w' : World) : Prop :=
  ∃ (v : Value) (mt : MT), e = .returned v ∧ mt.In w' v ∧ mt.T = (KB.build leB dims n l ks 0).1 ∧ mt.gs.Nodup ∧ (∀ g ∈ mt.gs, w.heap.size ≤ g) ∧ mt.bare ∧ Mod (fun k => k = pb ∨ k = lc) w w'

set_option maxRecDepth 100000 in
set_option maxHeartbeats 4000000 in
theorem new_at (w : World) (dims pb lc n c : Nat) (X : Option Addr) (l : List TP) (ks : List Nat) (hne : lc ≠ pb) (hdm : 0 < dims ∧ dims ≤ 1099511627776) (hn : l.length = n) (hX : 0 < n → X = some ⟨pb, 0, none⟩ ∧ TPs w pb l) (hW : WinOk w dims pb lc l) (hg : ∀ p ∈ l, p.Gr) (hK : PK w lc pb ks)
    (hl : n ≤ 1099511627776) (hc : n ≤ c) (hc2 : c ≤ 9223372036854775807) :
    Calls Try.prog 30 #[.iface 71 (picksV (.slice X n c) lc), .bool false] w (NewTold dims pb lc n l ks w) := by
  have m1 := kmeth_len
  have ma := run_assert_bd
  have HB : Hid (∀ w1 : World, w1 = w → Calls Try.prog 62 #[.iface 71 (picksV (.slice X n c) lc), .int .i64 0] w1 (Built dims pb lc n l ks w)) := by
    intro w1 hw
    subst hw
    by_cases hn0 : n = 0
    · subst hn0
      have hl0 : l = [] := List.length_eq_zero_iff.1 hn
      subst hl0
      exact (build0_at w1 c lc X).mono fun e w' ⟨he, hm⟩ => ⟨_, .nil, he, rfl, rfl, List.nodup_nil, fun g hg => (by cases hg), trivial, hm.mono (fun _ _ h => h.elim)⟩
    obtain ⟨hX1, hT⟩ := hX (by omega)
    have hb := build_at dims pb lc hne hdm n w1 0 n c 0 X [] l [] ks rfl hn (Nat.le_refl _) (by simpa using hT) (fun h => hX1) hW hK (by simpa [hn] using hl) hc hc2 hdm.1
    exact hb.mono fun e w' ⟨v, mt, q0, q1, q2, q3, q4, q5, _, _, q9⟩ => ⟨v, mt, q0, q1, q2, q3, q4, q5, q9⟩
  have HK := Lib.hid (And.intro hn (And.intro hW hg))
  clear hn hX hW hg hK
  go_enter Try.func30, Try.ntmps30
  go_wp2_with (first
    | (go_at_call 62; refine (HB.out _ rfl).mono ?_; rintro _ w1 ⟨v, mt, rfl, q1, q2, q3, q4, q5, q9⟩; obtain ⟨qv, rfl⟩ := q1.ptr; have HQ := Lib.hid (And.intro q1 (And.intro q2 (And.intro q3 (And.intro q4 (And.intro q5 q9))))); clear q1 q2 q3 q4 q5 q9)
    | (go_at_call 124; refine (klen_at _ X n c lc).mono ?_; rintro _ w2 ⟨rfl, hm2⟩; have HM2 := Lib.hid hm2; clear hm2))
  go_ret
  exact new_end hdm.1 (by rw [HK.out.1]; exact Nat.le_refl _) HK.out.2.1 HK.out.2.2 HQ.out.1 HQ.out.2.1 HQ.out.2.2.1 HQ.out.2.2.2.1 HQ.out.2.2.2.2.1 HQ.out.2.2.2.2.2 HM2.out

/-- What Insert tells. -/
def TInsTold (dims tb n : Nat) (q : TP) (mt : MT) (w : World) (e : Ending) (w' : World) : Prop :=
  ∃ mt' : MT, e = .returned (.tuple #[]) ∧ TrIn w' dims tb (n + 1) mt' ∧ mt'.T = KB.ins leB dims q 0 mt.T ∧ (∀ g ∈ mt'.gs, g ∈ mt.gs ∨ w.heap.size ≤ g) ∧ Mod (fun k => k = tb ∨ k ∈ mt.gs) w w'

theorem tins_end {dims tb n : Nat} {q : TP} {mt mt' : MT} {w w1 : World} {v v' : Value} (hd : 0 < dims) (hb : Blk w tb 79 [v, .int .i64 n]) (hT : TrIn w dims tb n mt) (hq : q.Ok w dims) (hg : q.Gr)
    (h1 : mt'.In w1 v') (h2 : mt'.T = KB.ins leB dims q 0 mt.T) (h3 : mt'.gs.Nodup) (h4 : ∀ g ∈ mt'.gs, g ∈ mt.gs ∨ w.heap.size ≤ g) (h5 : mt.bare → mt'.bare) (h6 : Mod (fun k => k ∈ mt.gs) (w.setCell ⟨tb, 1, none⟩ (.int .i64 ((n : Int) + 1))) w1) :
    TInsTold dims tb n q mt w (.returned (.tuple #[])) (w1.setCell ⟨tb, 0, none⟩ v') := by
  have htb := hb.lt
  have hm0 : Mod (fun k => k = tb ∨ k ∈ mt.gs) w (w.setCell ⟨tb, 1, none⟩ (.int .i64 ((n : Int) + 1))) := (Mod.refl _ _).set (.inl (.inl rfl)) _
  have hm1 : Mod (fun k => k = tb ∨ k ∈ mt.gs) w w1 := hm0.trans (h6.mono (fun _ _ h => .inr h))
  have hm2 : Mod (fun k => k = tb ∨ k ∈ mt.gs) w (w1.setCell ⟨tb, 0, none⟩ v') := hm1.set (.inl (.inl rfl)) _
  have hb1 : Blk w1 tb 79 [v, .int .i64 ((n : Int) + 1)] := (hb.set 1 (.int .i64 ((n : Int) + 1))).mod h6 hT.apart
  have hap : tb ∉ mt'.gs := fun h => by
    rcases h4 tb h with h | h
    · exact hT.apart h
    · omega
  obtain ⟨v0, hb0, hin0⟩ := hT.tree
  refine ⟨mt', rfl, ⟨⟨v', ?_, h1.keep fun k hk _ => Below.heap_setCell _ _ _ _ (fun (e : k = tb) => hap (e ▸ hk))⟩, h3, hap, h5 hT.bare, by rw [h2]; exact KB.ins_each leB dims hd q _ 0 hd hT.each, fun p hp => ?_⟩, h2, h4, hm2⟩
  · have := hb1.set 0 v'
    exact this
  · rw [MT.pts_all, h2] at hp
    have hp := (KB.ins_perm leB dims q mt.T 0).mem_iff.1 hp
    have hnf : ∀ k, k < w.heap.size → (k = tb ∨ k ∈ mt.gs) → NoFlt w k := fun k _ hk => by
      rcases hk with rfl | hk
      · intro o x hc
        rw [hb0.cell] at hc
        obtain ⟨q0, rfl⟩ := hin0.ptr
        have := List.mem_of_getElem? hc
        simp at this
      · exact hin0.noFlt k hk
    rcases List.mem_cons.1 hp with rfl | hp
    · exact ⟨hq.noFlt hm2 hnf, hg⟩
    · rw [← MT.pts_all] at hp
      exact ⟨(hT.pts p hp).1.noFlt hm2 hnf, (hT.pts p hp).2⟩

set_option maxRecDepth 100000 in
set_option maxHeartbeats 4000000 in
theorem tinsert_at (w : World) (dims tb n : Nat) (q : TP) (mt : MT) (hdm : 0 < dims ∧ dims ≤ 1099511627776) (hT : TrIn w dims tb n mt) (hq : q.Ok w dims) (hg : q.Gr) (hn : n ≤ 4294967296) :
    Calls Try.prog 32 #[.pointer (some ⟨tb, 0, none⟩), .iface 73 (.slice q.A dims q.c), .bool false] w (TInsTold dims tb n q mt w) := by
  have ma := run_assert_ext
  obtain ⟨v, hb, hin⟩ := hT.tree
  obtain ⟨qv, rfl⟩ := hin.ptr
  have c0 := hb.at (i := 0) rfl
  have c1 := hb.at (i := 1) rfl
  have f0 := hb.frozen 0
  have f1 := hb.frozen 1
  have hw1 : IntKind.i64.wrap ((n : Int) + 1) = (n : Int) + 1 := IntWalk.i64_in _ (by omega)
  have hnf : ∀ k, k < w.heap.size → k = tb → NoFlt w k := fun k _ hk => by
    subst hk
    intro o x hc
    rw [hb.cell] at hc
    have := List.mem_of_getElem? hc
    simp at this
  have hm0 : Mod (fun k => k = tb) w (w.setCell ⟨tb, 1, none⟩ (.int .i64 ((n : Int) + 1))) := (Mod.refl (fun k => k = tb) w).set (p := ⟨tb, 1, none⟩) (.inl rfl) _
  have HINS : Hid (Calls Try.prog 64 #[.pointer qv, .iface 73 (.slice q.A dims q.c), .int .i64 0] (w.setCell ⟨tb, 1, none⟩ (.int .i64 ((n : Int) + 1))) (InsTold dims 0 q mt (w.setCell ⟨tb, 1, none⟩ (.int .i64 ((n : Int) + 1))))) :=
    insert_at dims hdm q hg mt _ (.pointer qv) 0 0 rfl (hin.mod hm0 (fun k hk (e : k = tb) => hT.apart (e ▸ hk))) hT.nodup (hq.noFlt hm0 hnf) (fun p hp => ⟨(hT.pts p hp).1.noFlt hm0 hnf, (hT.pts p hp).2⟩) hT.each
  have hroot : ∀ g p d bx l r, mt = .node g p d bx l r → qv = some ⟨g, 0, none⟩ ∧ w.cell? ⟨g, 4, none⟩ = some (.pointer none) ∧ g ≠ tb := by
    intro g p d bx l r e
    subst e
    obtain ⟨hv, lv, rv, hbn, _⟩ := hin
    injection hv with hv
    have hbx : bx = none := hT.bare.1
    subst hbx
    exact ⟨hv, hbn.at (i := 4) rfl, fun e => hT.apart (by rw [← e]; simp [MT.gs])⟩
  have hnil : mt = .nil → qv = none := fun e => by
    subst e
    have hv : Value.pointer qv = .pointer none := hin
    injection hv
  have HK := Lib.hid (And.intro hb (And.intro hT (And.intro hq hg)))
  have END : Hid (∀ (e : Ending) (w1 : World), InsTold dims 0 q mt (w.setCell ⟨tb, 1, none⟩ (.int .i64 ((n : Int) + 1))) e w1 → ∃ qw, e = .returned (.pointer qw) ∧ w1.cell? ⟨tb, 0, none⟩ = some (.pointer qv) ∧ w1.frozen? ⟨tb, 0, none⟩ = false ∧ TInsTold dims tb n q mt w (.returned (.tuple #[])) (w1.setCell ⟨tb, 0, none⟩ (.pointer qw))) := by
    rintro e w1 ⟨v', mt', rfl, i1, i2, i3, i4, i5, i6⟩
    obtain ⟨qw, rfl⟩ := i1.ptr
    have hb1 := (hb.set 1 (.int .i64 ((n : Int) + 1))).mod i6 hT.apart
    exact ⟨qw, rfl, hb1.at (i := 0) rfl, hb1.frozen 0, tins_end hdm.1 hb hT hq hg i1 i2 i3 (fun g hgg => by rcases i4 g hgg with h | h; exact .inl h; exact .inr (by simpa [World.setCell] using h)) i5 i6⟩
  clear hb hin hT hq hg hnf hm0
  cases mt with
  | nil =>
    obtain rfl := hnil rfl
    clear hroot hnil
    go_enter Try.func32, Try.ntmps32
    go_wp2_with (go_at_call 64; refine HINS.out.mono ?_; rintro e w1 he; obtain ⟨qw, rfl, y0, z0, hend⟩ := END.out _ _ he; have HE := Lib.hid hend; clear hend he)
    exact bodyPost_end (by simp [results, Try.results32, go_sem]) rfl HE.out
  | node g p d bx l r =>
    obtain ⟨e0, c4, hgt⟩ := hroot g p d bx l r rfl
    subst e0
    clear hroot hnil
    have hgt' : tb ≠ g := Ne.symm hgt
    go_enter Try.func32, Try.ntmps32
    go_wp2_with (go_at_call 64; refine HINS.out.mono ?_; rintro e w1 he; obtain ⟨qw, rfl, y0, z0, hend⟩ := END.out _ _ he; have HE := Lib.hid hend; clear hend he)
    exact bodyPost_end (by simp [results, Try.results32, go_sem]) rfl HE.out

set_option maxHeartbeats 1000000 in
theorem tlen_at (w : World) (tb n : Nat) (v : Value) (hb : Blk w tb 79 [v, .int .i64 n]) :
    Calls Try.prog 35 #[.pointer (some ⟨tb, 0, none⟩)] w fun e w' => e = .returned (.int .i64 n) ∧ w = w' := by
  have c1 := hb.at (i := 1) rfl
  clear hb
  go_enter Try.func35, Try.ntmps35
  go_wp2
  go_ret
  exact ⟨rfl, rfl⟩
end Go.Proofs.Ytmeooadgdagiiaa

namespace Go.Proofs.Ytmeooadgdagiiaa
open Go.RowKit Lox
set_option linter.unusedVariables false

/-- A node of a k-d tree that is written down, as plain data. -/
structure PR where
  xs : List Nat
  pl : Nat
  l : Int
  r : Int
  mn : List Nat
  mx : List Nat
deriving DecidableEq

/-- A node that is written down, in memory. -/
structure KR where
  p : TP
  pl : Nat
  l : Int
  r : Int
  mn : TP
  mx : TP

def KR.cells (x : KR) : List Value := [x.p.v, .int .i64 x.pl, .int .i64 x.l, .int .i64 x.r, x.mn.v, x.mx.v]
def KR.plain (x : KR) : PR := ⟨x.p.xs, x.pl, x.l, x.r, x.mn.xs, x.mx.xs⟩

def MT.count : MT → Nat
  | .nil => 0
  | .node _ _ _ _ l r => 1 + l.count + r.count

def boxMn : Option BX → List Nat
  | none => []
  | some b => b.mn.xs
def boxMx : Option BX → List Nat
  | none => []
  | some b => b.mx.xs

/-- Where a tree stands that is written down from place i on. -/
def MT.at (i : Nat) : MT → Int
  | .nil => -1
  | .node _ _ _ _ _ _ => i

/-- A tree written down from place i on: the node, what is on its left, what is on its right. -/
def MT.flat : Nat → MT → List PR
  | _, .nil => []
  | i, .node _ p d bx l r => ⟨p.xs, d, l.at (i + 1), r.at (i + 1 + l.count), boxMn bx, boxMx bx⟩ :: (l.flat (i + 1) ++ r.flat (i + 1 + l.count))

theorem MT.flat_len : ∀ (t : MT) (i : Nat), (t.flat i).length = t.count := by
  intro t
  induction t with
  | nil => intro i; rfl
  | node g p d bx l r ihl ihr => intro i; simp only [MT.flat, MT.count, List.length_cons, List.length_append, ihl, ihr]; omega

theorem flat6_len (rs : List KR) : (rs.flatMap KR.cells).length = rs.length * 6 := by
  induction rs with
  | nil => rfl
  | cons x rs ih => simp only [List.flatMap_cons, List.length_append, List.length_cons, ih, KR.cells, List.length_nil]; omega

theorem flat6_get (rs : List KR) (i j : Nat) (x : KR) (hx : rs[i]? = some x) (hj : j < 6) : (rs.flatMap KR.cells)[i * 6 + j]? = x.cells[j]? := by
  induction rs generalizing i with
  | nil => simp at hx
  | cons y rs ih =>
    rw [List.flatMap_cons]
    have hy : y.cells.length = 6 := rfl
    cases i with
    | zero =>
      simp only [List.getElem?_cons_zero, Option.some.injEq] at hx
      subst hx
      rw [Nat.zero_mul, Nat.zero_add, List.getElem?_append_left (by omega)]
    | succ i =>
      rw [List.getElem?_append_right (by omega), hy]
      have e : (i + 1) * 6 + j - 6 = i * 6 + j := by omega
      rw [e]
      exact ih i (by simpa using hx)

theorem flat6_set (rs : List KR) (i j : Nat) (x y : KR) (v : Value) (hx : rs[i]? = some x) (hy : y.cells = x.cells.set j v) (hj : j < 6) : (rs.flatMap KR.cells).set (i * 6 + j) v = (rs.set i y).flatMap KR.cells := by
  induction rs generalizing i with
  | nil => simp at hx
  | cons z rs ih =>
    have hz : z.cells.length = 6 := rfl
    cases i with
    | zero =>
      simp only [List.getElem?_cons_zero, Option.some.injEq] at hx
      subst hx
      rw [List.flatMap_cons, Nat.zero_mul, Nat.zero_add, List.set_append_left _ _ (by omega), List.set_cons_zero, List.flatMap_cons, hy]
    | succ i =>
      rw [List.flatMap_cons, List.set_append_right _ _ (by omega), hz, List.set_cons_succ, List.flatMap_cons]
      have e : (i + 1) * 6 + j - 6 = i * 6 + j := by omega
      rw [e, ih i (by simpa using hx)]

theorem own_set_at {w : World} {B : Nat} {e : TypeId} {size g n cap i : Nat} {xs : List Value} (h : w.ownsRow B e size (.slice (some ⟨g, 0, none⟩) n cap) n xs) (u : Value) :
    (w.setCell ⟨g, i, none⟩ u).ownsRow B e size (.slice (some ⟨g, 0, none⟩) n cap) n (xs.set i u) := by
  refine ⟨by rw [List.length_set]; exact h.1, ?_⟩
  rcases h.2 with ⟨e1, _⟩ | ⟨g', cap', cur, e1, hB, hg, hc, hcm, hsz, ht⟩
  · cases e1
  · cases e1
    have hb : Blk w g e cur.toList := by unfold Blk; simpa using hg
    have hs := hb.set i u
    refine .inr ⟨g, cap, (cur.toList.set i u).toArray, rfl, hB, hs, hc, hcm, by simp [hsz], ?_⟩
    simp only [List.take_set, ht]

/-- A point that is a node's own: no box's point, or one of dims coordinates, in a block apart from the row. -/
def TP.Own (B : Nat) (w : World) (dims : Nat) (v : Value) (p : TP) : Prop := p.Ok w dims ∧ ∀ b o, p.A = some ⟨b, o, none⟩ → B ≤ b ∧ v.ownBlock ≠ some b
def TP.Own0 (B : Nat) (w : World) (dims : Nat) (v : Value) (p : TP) : Prop := p = ⟨none, 0, []⟩ ∨ p.Own B w dims v

/-- Nodes that are written down, in a row v of their own. -/
structure KS (B : Nat) (w : World) (dims : Nat) (v : Value) (rs : List KR) : Prop where
  own : w.ownsRow B 39 6 v rs.length (rs.flatMap KR.cells)
  ok : ∀ x ∈ rs, x.p.Own B w dims v ∧ x.mn.Own0 B w dims v ∧ x.mx.Own0 B w dims v

theorem KS.nil (B : Nat) (w : World) (dims : Nat) : KS B w dims (.slice none 0 0) [] := ⟨World.ownsRow_nil _ _ _ _, fun x hx => by cases hx⟩


theorem TP.Own.keep {B : Nat} {w w' : World} {dims : Nat} {v : Value} {p : TP} (h : p.Own B w dims v) (hk : ∀ k, k < w.heap.size → v.ownBlock ≠ some k → w'.heap[k]? = w.heap[k]?) : p.Own B w' dims v := by
  refine ⟨⟨h.1.1, h.1.2.1, fun h0 => ?_⟩, h.2⟩
  obtain ⟨b, o, e, hc⟩ := h.1.2.2 h0
  exact ⟨b, o, e, fun j u hu => (World.cell?_of_block (w := w) (hk b (lt_of_cell (hc j u hu)) (h.2 b o e).2)).trans (hc j u hu)⟩

theorem TP.Own0.keep {B : Nat} {w w' : World} {dims : Nat} {v : Value} {p : TP} (h : p.Own0 B w dims v) (hk : ∀ k, k < w.heap.size → v.ownBlock ≠ some k → w'.heap[k]? = w.heap[k]?) : p.Own0 B w' dims v :=
  h.imp id fun h => h.keep hk

theorem KS.mod {B : Nat} {w w' : World} {dims : Nat} {v : Value} {rs : List KR} (h : KS B w dims v rs) (hm : Mod (fun _ => False) w w') : KS B w' dims v rs :=
  ⟨h.own.kept hm.grownBy (Decidable.em _), fun x hx => ⟨(h.ok x hx).1.keep fun k hk _ => hm.block k hk (fun h => h), (h.ok x hx).2.1.keep fun k hk _ => hm.block k hk (fun h => h), (h.ok x hx).2.2.keep fun k hk _ => hm.block k hk (fun h => h)⟩⟩

/-- The own block behind an append: a point apart from the elder one is apart from the newer one. -/
theorem TP.Own.moved {B : Nat} {w : World} {dims : Nat} {v v' : Value} {p : TP} (hd : 0 < dims) (h : p.Own B w dims v) {g H : Nat} (hv : v'.ownBlock = some g) (hat : v.ownBlock = some g ∨ g = H) (hH : w.heap.size ≤ H) : p.Own B w dims v' := by
  refine ⟨h.1, fun b o e => ⟨(h.2 b o e).1, fun e2 => ?_⟩⟩
  rw [hv] at e2
  injection e2 with e2
  subst e2
  have hlt : g < w.heap.size := (h.1.2.far (by omega)) (by rw [h.1.1]; exact hd) g o e
  rcases hat with h1 | h1
  · exact (h.2 g o e).2 h1
  · omega

theorem TP.Own0.moved {B : Nat} {w : World} {dims : Nat} {v v' : Value} {p : TP} (hd : 0 < dims) (h : p.Own0 B w dims v) {g H : Nat} (hv : v'.ownBlock = some g) (hat : v.ownBlock = some g ∨ g = H) (hH : w.heap.size ≤ H) : p.Own0 B w dims v' :=
  h.imp id fun h => h.moved hd hv hat hH

/-- A node more is written down. -/
theorem KS.push {B : Nat} {w w3 : World} {dims g cap : Nat} {v : Value} {rs : List KR} {x : KR} {o : Obj} (hd : 0 < dims) (h : KS B w dims v rs) (hx : x.p.Own B w dims v ∧ x.mn.Own0 B w dims v ∧ x.mx.Own0 B w dims v)
    (hown : w3.ownsRow B 39 6 (.slice (some ⟨g, 0, none⟩) (rs.length + 1) cap) (rs.length + 1) (rs.flatMap KR.cells ++ x.cells)) (hgrow : (w.alloc o).grownBy w3 v.ownBlock) (hat : v.ownBlock = some g ∨ g = w.heap.size + 1) :
    KS B w3 dims (.slice (some ⟨g, 0, none⟩) (rs.length + 1) cap) (rs ++ [x]) := by
  have hk : ∀ k, k < w.heap.size → v.ownBlock ≠ some k → w3.heap[k]? = w.heap[k]? := fun k hk hne =>
    (hgrow.block k (by rw [World.size_alloc]; omega) (Ne.symm hne)).trans (Below.heap_alloc _ _ _ hk)
  have hz : w.heap.size ≤ w3.heap.size := by have := hgrow.size; rw [World.size_alloc] at this; omega
  have mv : ∀ p : TP, p.Own B w dims v → p.Own B w3 dims (.slice (some ⟨g, 0, none⟩) (rs.length + 1) cap) := by
    intro p hp
    have h1 : p.Own B w dims (.slice (some ⟨g, 0, none⟩) (rs.length + 1) cap) := hp.moved hd rfl hat (by omega)
    exact ⟨(hp.keep hk).1, h1.2⟩
  have mv0 : ∀ p : TP, p.Own0 B w dims v → p.Own0 B w3 dims (.slice (some ⟨g, 0, none⟩) (rs.length + 1) cap) := fun p hp => hp.imp id (mv p)
  refine ⟨by rw [List.length_append, List.flatMap_append]; simpa using hown, fun y hy => ?_⟩
  rcases List.mem_append.1 hy with hy | hy
  · exact ⟨mv _ (h.ok y hy).1, mv0 _ (h.ok y hy).2.1, mv0 _ (h.ok y hy).2.2⟩
  · rw [List.mem_singleton.1 hy]
    exact ⟨mv _ hx.1, mv0 _ hx.2.1, mv0 _ hx.2.2⟩

/-- A node's both sides are written. -/
theorem KS.sides {B : Nat} {w : World} {dims i g n cap : Nat} {rs : List KR} {x : KR} (h : KS B w dims (.slice (some ⟨g, 0, none⟩) n cap) rs) (hn : n = rs.length) (hx : rs[i]? = some x) (l r : Int) :
    KS B ((w.setCell ⟨g, i * 6 + 2, none⟩ (.int .i64 l)).setCell ⟨g, i * 6 + 3, none⟩ (.int .i64 r)) dims (.slice (some ⟨g, 0, none⟩) n cap) (rs.set i { x with l := l, r := r }) := by
  subst hn
  have hil := (List.getElem?_eq_some_iff.1 hx).1
  have h1 := own_set_at (i := i * 6 + 2) h.own (.int .i64 l)
  rw [flat6_set rs i 2 x { x with l := l } _ hx rfl (by omega)] at h1
  have hx2 : (rs.set i { x with l := l })[i]? = some { x with l := l } := by rw [List.getElem?_set_self hil]
  have h2 := own_set_at (i := i * 6 + 3) h1 (.int .i64 r)
  rw [flat6_set _ i 3 { x with l := l } { x with l := l, r := r } _ hx2 rfl (by omega), List.set_set] at h2
  have hk : ∀ k, k < w.heap.size → (Value.slice (some ⟨g, 0, none⟩) rs.length cap).ownBlock ≠ some k → ((w.setCell ⟨g, i * 6 + 2, none⟩ (.int .i64 l)).setCell ⟨g, i * 6 + 3, none⟩ (.int .i64 r)).heap[k]? = w.heap[k]? := fun k _ hne => by
    have hne' : k ≠ g := fun e => hne (by rw [e]; rfl)
    rw [Below.heap_setCell _ _ _ _ (by show k ≠ g; exact hne'), Below.heap_setCell _ _ _ _ (by show k ≠ g; exact hne')]
  have hk2 : ∀ y ∈ rs, (y.p.Own B ((w.setCell ⟨g, i * 6 + 2, none⟩ (.int .i64 l)).setCell ⟨g, i * 6 + 3, none⟩ (.int .i64 r)) dims (.slice (some ⟨g, 0, none⟩) rs.length cap)) ∧ y.mn.Own0 B ((w.setCell ⟨g, i * 6 + 2, none⟩ (.int .i64 l)).setCell ⟨g, i * 6 + 3, none⟩ (.int .i64 r)) dims (.slice (some ⟨g, 0, none⟩) rs.length cap) ∧ y.mx.Own0 B ((w.setCell ⟨g, i * 6 + 2, none⟩ (.int .i64 l)).setCell ⟨g, i * 6 + 3, none⟩ (.int .i64 r)) dims (.slice (some ⟨g, 0, none⟩) rs.length cap) :=
    fun y hy => ⟨(h.ok y hy).1.keep hk, (h.ok y hy).2.1.keep hk, (h.ok y hy).2.2.keep hk⟩
  refine ⟨by rw [List.length_set]; exact h2, fun y hy => ?_⟩
  rcases List.mem_or_eq_of_mem_set hy with hy | rfl
  · exact hk2 y hy
  · exact hk2 x (List.mem_of_getElem? hx)

theorem KS.cell {B : Nat} {w : World} {dims i g n cap j : Nat} {rs : List KR} {x : KR} (h : KS B w dims (.slice (some ⟨g, 0, none⟩) n cap) rs) (hn : n = rs.length) (hx : rs[i]? = some x) (hj : j < 6) :
    w.cell? ⟨g, i * 6 + j, none⟩ = x.cells[j]? ∧ w.frozen? ⟨g, i * 6 + j, none⟩ = false := by
  subst hn
  have hg := flat6_get rs i j x hx hj
  have hcj : x.cells[j]? = some (x.cells[j]'(by show j < 6; exact hj)) := List.getElem?_eq_getElem _
  rw [hcj] at hg
  have := h.own.cells (g := g) rfl _ _ hg
  rw [addr_lit, Nat.zero_add] at this
  refine ⟨this.trans hcj.symm, ?_⟩
  rcases h.own.2 with ⟨e1, _⟩ | ⟨g', cap', cur, e1, hB, hgg, _⟩
  · cases e1
  · cases e1
    have hb : Blk w g 39 cur.toList := by unfold Blk; simpa using hgg
    exact hb.frozen _
end Go.Proofs.Ytmeooadgdagiiaa
