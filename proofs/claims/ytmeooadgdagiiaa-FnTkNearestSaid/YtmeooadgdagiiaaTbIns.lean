/- The walks of Compare and insert over a k-d tree in memory. Conditions: as each says. -/
import Derived.Test.YtmeooadgdagiiaaTbTree
import Derived.Deep.RegionHeld3
import Derived.Deep.DrawnRows
import Derived.Deep.DeepCutAuto
import Derived.Deep.QuietTactic
import Derived.IntWalk
import Derived.Test.YtmeooadgdagiiaaTbFl
namespace Go.Proofs.Ytmeooadgdagiiaa
open Go.RowKit Lox
set_option linter.unusedVariables false
attribute [local go_sem] run_store_flt run_store_fn
attribute [local go_sem ↓] Go.wp_at_zero Go.wp_at_succ

theorem run_assert_pt (v : Value) (w : World) : (Instr.typeAssert (.iface 73 v) 92 73 false).run Try.prog w = .ok v w := by kernel_rfl

/-- A point of whole numbers. -/
def TP.Gr (p : TP) : Prop := ∀ d, d < p.xs.length → ∃ a, Wh (p.n d) a

theorem TP.gr_of {p : TP} (h : ∀ x ∈ p.xs, ∃ n, Wh x n) : p.Gr := fun d hd => by
  have e : p.n d = p.xs[d] := by simp [TP.n, hd]
  rw [e]
  exact h _ (List.getElem_mem hd)

set_option maxHeartbeats 1000000 in
theorem pcompare_at (w : World) (dims d : Nat) (D : Int) (p q : TP) (a b : Int) (hD : D = d) (hp : p.Ok w dims) (hq : q.Ok w dims) (ha : Wh (p.n d) a) (hb : Wh (q.n d) b) (hd : d < dims) (hdm : dims ≤ 1099511627776) :
    Calls Try.prog 133 #[.slice p.A dims p.c, .iface 73 (.slice q.A dims q.c), .int .i64 D] w fun e w' => (∃ r, e = .returned (.float .f64 r) ∧ Gd 0 r (a - b)) ∧ Mod (fun _ => False) w w' := by
  subst hD
  have hta := run_assert_pt
  obtain ⟨l1, s1, z1⟩ := hp
  obtain ⟨l2, s2, z2⟩ := hq
  rw [l1] at z1
  rw [l2] at z2
  obtain ⟨b1, o1, e1, r1⟩ := z1 (by omega)
  obtain ⟨b2, o2, e2, r2⟩ := z2 (by omega)
  have k1 : w.cell? ⟨b1, o1 + d, none⟩ = some (.float .f64 (p.n d)) := r1 d _ (by
    have hh : d < p.xs.length := by omega
    simp [flts, TP.n, hh])
  have k2 : w.cell? ⟨b2, o2 + d, none⟩ = some (.float .f64 (q.n d)) := r2 d _ (by
    have hh : d < q.xs.length := by omega
    simp [flts, TP.n, hh])
  have d1 : (0 : Int) ≤ d := by omega
  have d2 : (d : Int) < dims := by omega
  obtain ⟨r, hr, hg⟩ := Gd.sub ha.1 hb.1 (by omega) (by have := ha.2; have := hb.2; omega)
  have hsub : ∀ (t : TypeId) (w : World), (binOp .sub t (.float .f64 (p.n d)) (.float .f64 (q.n d))).run Try.prog w = .ok (.float .f64 r) w := fun t w => run_float_arith w .sub t .f64 _ _ r hr
  rw [e1, e2]
  have HG := Lib.hid hg
  clear s1 s2 z1 z2 r1 r2 e1 e2 l1 l2 hr hg ha hb
  generalize p.n d = x at k1 hsub
  generalize q.n d = y at k2 hsub
  go_enter Try.func133, Try.ntmps133
  go_wp2
  go_region
  all_goals (go_wp2; go_ret)
  all_goals exact ⟨⟨r, rfl, HG.out⟩, (Mod.refl _ w).drew⟩

theorem _root_.Lox.Mod.drewN {S : Nat → Prop} {a w : World} (h : Mod S a w) (n : Nat) : Mod S a (w.drewN n) := ⟨h.os, h.tape, h.output, h.size, h.block⟩

theorem TP.Ok.drew {w : World} {dims : Nat} {p : TP} (h : p.Ok w dims) : p.Ok w.drew dims := h

theorem TP.Ok.mod0 {w w' : World} {dims : Nat} {p : TP} (h : p.Ok w dims) (hm : Mod (fun _ => False) w w') : p.Ok w' dims := ⟨h.1, h.2.mod hm⟩

/-- The program's look: the first one's number is not above the second one's. -/
theorem le_look {r : Nat} {a b : Int} (hr : Gd 0 r (a - b)) : (FloatKind.f64.format.order r 0 == some .lt || FloatKind.f64.format.order r 0 == some .eq) = decide (a ≤ b) := by
  have hz : Gd 0 0 0 := gd0_of_is is_zero
  rw [hr.lt hz, hr.eq hz]
  by_cases h : a ≤ b
  · rw [decide_eq_true h]
    rcases Int.lt_or_eq_of_le h with h1 | h1
    · rw [decide_eq_true (by omega : a - b < 0)]; rfl
    · rw [decide_eq_true (by omega : a - b = 0), Bool.or_true]
  · rw [decide_eq_false h, decide_eq_false (by omega), decide_eq_false (by omega)]; rfl

theorem leB_int {d : Nat} {p q : TP} {a b : Int} (ha : Wh (p.n d) a) (hb : Wh (q.n d) b) : leB d p q = decide (a ≤ b) := by
  unfold leB
  rw [hb.1.lt ha.1]
  by_cases h : a ≤ b
  · rw [decide_eq_true h, decide_eq_false (by omega)]; rfl
  · rw [decide_eq_false h, decide_eq_true (by omega)]; rfl

/-- What insert tells. -/
def InsTold (dims d : Nat) (q : TP) (mt : MT) (w : World) (e : Ending) (w' : World) : Prop :=
  ∃ (v' : Value) (mt' : MT), e = .returned v' ∧ mt'.In w' v' ∧ mt'.T = KB.ins leB dims q d mt.T ∧ mt'.gs.Nodup ∧ (∀ g ∈ mt'.gs, g ∈ mt.gs ∨ w.heap.size ≤ g) ∧ (mt.bare → mt'.bare) ∧ Mod (fun k => k ∈ mt.gs) w w'

theorem ins_new (dims d : Nat) (q : TP) (w : World) (n : Nat) (hn : q.xs.length = n) : InsTold dims d q .nil w (.returned (.pointer (some ⟨w.heap.size, 0, none⟩))) (w.alloc (.cells #[.iface 73 (.slice q.A n q.c), .int .i64 d, .pointer none, .pointer none, .pointer none] 122)) := by
  subst hn
  refine ⟨_, .node w.heap.size q d none .nil .nil, rfl, ⟨rfl, .pointer none, .pointer none, Blk.new' _ _ _, rfl, rfl⟩, rfl, by simp [MT.gs], fun g hg => ?_, fun _ => ⟨rfl, trivial, trivial⟩, (Mod.refl _ _).alloc _⟩
  simp [MT.gs] at hg
  exact .inr (by omega)

theorem ins_left {dims d g pl : Nat} {q p : TP} {bx : Option BX} {l r lt : MT} {w w1 w2 : World} {lv rv v' : Value} (hb : Blk w g 122 (nodeCells p pl lv rv bx)) (hr : r.In w rv) (hN : (g :: (l.gs ++ r.gs)).Nodup) (hgl : ∀ k ∈ l.gs, k < w.heap.size)
    (hle : leB pl q p = true) (h01 : Mod (fun _ => False) w w1) (hi : lt.In w2 v') (hT : lt.T = KB.ins leB dims q ((pl + 1) % dims) l.T) (hn : lt.gs.Nodup) (hg : ∀ g ∈ lt.gs, g ∈ l.gs ∨ w1.heap.size ≤ g) (hba : l.bare → lt.bare) (h12 : Mod (fun k => k ∈ l.gs) w1 w2) :
    InsTold dims d q (.node g p pl bx l r) w (.returned (.pointer (some ⟨g, 0, none⟩))) (w2.setCell ⟨g, 2, none⟩ v') := by
  obtain ⟨hN1, hN2⟩ := List.nodup_cons.1 hN
  obtain ⟨hN3, hN4, hN5⟩ := List.nodup_append.1 hN2
  have h02 : Mod (fun k => k ∈ l.gs) w w2 := (h01.mono (fun _ _ h => h.elim)).trans h12
  have s1 := h01.size
  have hgw := hb.lt
  have gnl : g ∉ l.gs := fun h => hN1 (List.mem_append.2 (.inl h))
  have gnr : g ∉ r.gs := fun h => hN1 (List.mem_append.2 (.inr h))
  have gnt : g ∉ lt.gs := fun h => by
    rcases hg g h with h | h
    · exact gnl h
    · omega
  have hrl := hr.lt
  have hb2 : Blk w2 g 122 (nodeCells p pl lv rv bx) := hb.mod h02 gnl
  refine ⟨_, .node g p pl bx lt r, rfl, ⟨rfl, v', rv, ?_, hi.keep fun k hk _ => Below.heap_setCell _ _ _ _ (fun (e : k = g) => gnt (e ▸ hk)), (hr.mod h02 (fun k hk hk2 => hN5 k hk2 k hk rfl)).keep fun k hk _ => Below.heap_setCell _ _ _ _ (fun (e : k = g) => gnr (e ▸ hk))⟩, ?_, ?_, ?_, fun h => ⟨h.1, hba h.2.1, h.2.2⟩, ?_⟩
  · have := hb2.set 2 v'
    exact this
  · show KB.T.node p pl lt.T r.T = _
    rw [hT]
    simp only [MT.T, KB.ins, hle, if_true]
  · show (g :: (lt.gs ++ r.gs)).Nodup
    refine List.nodup_cons.2 ⟨fun h => ?_, List.nodup_append.2 ⟨hn, hN4, fun a ha b hb' e => ?_⟩⟩
    · rcases List.mem_append.1 h with h | h
      · exact gnt h
      · exact gnr h
    · subst e
      rcases hg a ha with h | h
      · exact hN5 a h a hb' rfl
      · have := hrl a hb'; omega
  · intro k hk
    rcases List.mem_cons.1 hk with rfl | hk
    · exact .inl (by simp [MT.gs])
    · rcases List.mem_append.1 hk with hk | hk
      · rcases hg k hk with h | h
        · exact .inl (by simp [MT.gs, h])
        · exact .inr (by omega)
      · exact .inl (by simp [MT.gs, hk])
  · exact (h02.mono (fun k _ h => by simp [MT.gs, h])).set (.inl (by simp [MT.gs])) _

theorem ins_right {dims d g pl : Nat} {q p : TP} {bx : Option BX} {l r rt : MT} {w w1 w2 : World} {lv rv v' : Value} (hb : Blk w g 122 (nodeCells p pl lv rv bx)) (hl : l.In w lv) (hN : (g :: (l.gs ++ r.gs)).Nodup) (hgr : ∀ k ∈ r.gs, k < w.heap.size)
    (hle : leB pl q p = false) (h01 : Mod (fun _ => False) w w1) (hi : rt.In w2 v') (hT : rt.T = KB.ins leB dims q ((pl + 1) % dims) r.T) (hn : rt.gs.Nodup) (hg : ∀ g ∈ rt.gs, g ∈ r.gs ∨ w1.heap.size ≤ g) (hba : r.bare → rt.bare) (h12 : Mod (fun k => k ∈ r.gs) w1 w2) :
    InsTold dims d q (.node g p pl bx l r) w (.returned (.pointer (some ⟨g, 0, none⟩))) (w2.setCell ⟨g, 3, none⟩ v') := by
  obtain ⟨hN1, hN2⟩ := List.nodup_cons.1 hN
  obtain ⟨hN3, hN4, hN5⟩ := List.nodup_append.1 hN2
  have h02 : Mod (fun k => k ∈ r.gs) w w2 := (h01.mono (fun _ _ h => h.elim)).trans h12
  have s1 := h01.size
  have hgw := hb.lt
  have gnl : g ∉ l.gs := fun h => hN1 (List.mem_append.2 (.inl h))
  have gnr : g ∉ r.gs := fun h => hN1 (List.mem_append.2 (.inr h))
  have gnt : g ∉ rt.gs := fun h => by
    rcases hg g h with h | h
    · exact gnr h
    · omega
  have hll := hl.lt
  have hb2 : Blk w2 g 122 (nodeCells p pl lv rv bx) := hb.mod h02 gnr
  refine ⟨_, .node g p pl bx l rt, rfl, ⟨rfl, lv, v', ?_, (hl.mod h02 (fun k hk hk2 => hN5 k hk k hk2 rfl)).keep fun k hk _ => Below.heap_setCell _ _ _ _ (fun (e : k = g) => gnl (e ▸ hk)), hi.keep fun k hk _ => Below.heap_setCell _ _ _ _ (fun (e : k = g) => gnt (e ▸ hk))⟩, ?_, ?_, ?_, fun h => ⟨h.1, h.2.1, hba h.2.2⟩, ?_⟩
  · have := hb2.set 3 v'
    exact this
  · show KB.T.node p pl l.T rt.T = _
    rw [hT]
    simp only [MT.T, KB.ins, hle, if_false, Bool.false_eq_true]
  · show (g :: (l.gs ++ rt.gs)).Nodup
    refine List.nodup_cons.2 ⟨fun h => ?_, List.nodup_append.2 ⟨hN3, hn, fun a ha b hb' e => ?_⟩⟩
    · rcases List.mem_append.1 h with h | h
      · exact gnl h
      · exact gnt h
    · subst e
      rcases hg a hb' with h | h
      · exact hN5 a ha a h rfl
      · have := hll a ha; omega
  · intro k hk
    rcases List.mem_cons.1 hk with rfl | hk
    · exact .inl (by simp [MT.gs])
    · rcases List.mem_append.1 hk with hk | hk
      · exact .inl (by simp [MT.gs, hk])
      · rcases hg k hk with h | h
        · exact .inl (by simp [MT.gs, h])
        · exact .inr (by omega)
  · exact (h02.mono (fun k _ h => by simp [MT.gs, h])).set (.inl (by simp [MT.gs])) _

set_option maxRecDepth 100000 in
set_option maxHeartbeats 8000000 in
theorem insert_at (dims : Nat) (hdm : 0 < dims ∧ dims ≤ 1099511627776) (q : TP) (hqg : q.Gr) (mt : MT) :
    ∀ (w : World) (v : Value) (d : Nat) (D : Int), D = d → mt.In w v → mt.gs.Nodup → q.Ok w dims → (∀ p ∈ mt.pts, p.Ok w dims ∧ p.Gr) → mt.T.Each (fun _ d => d < dims) →
      Calls Try.prog 64 #[v, .iface 73 (.slice q.A dims q.c), .int .i64 D] w (InsTold dims d q mt w) := by
  have m1 := kmeth_dims
  have m2 := kmeth_compare
  have m3 := kahead_compare
  induction mt with
  | nil =>
    intro w v d D hD hI hN hq hP hE
    subst hD
    have hv : v = .pointer none := hI
    subst hv
    have hql := hq.1
    have H := Lib.hid hql
    clear hI hN hq hP hE hql
    go_enter Try.func64, Try.ntmps64
    go_wp2
    go_ret
    exact ins_new dims d q w dims H.out
  | node g p pl bx l r ihl ihr =>
    intro w v d D hD hI hN hq hP hE
    subst hD
    obtain ⟨hv, lv, rv, hb, hl, hr⟩ := hI
    subst hv
    obtain ⟨ql, rfl⟩ := hl.ptr
    obtain ⟨qr, rfl⟩ := hr.ptr
    have hpp := hP p (by simp [MT.pts])
    obtain ⟨hpl, hEl, hEr⟩ := hE
    obtain ⟨a, ha⟩ := hqg pl (by rw [hq.1]; exact hpl)
    obtain ⟨b, hb2⟩ := hpp.2 pl (by rw [hpp.1.1]; exact hpl)
    have hle0 := leB_int (d := pl) (p := q) (q := p) ha hb2
    have c0 : w.cell? ⟨g, 0, none⟩ = some (.iface 73 (.slice p.A dims p.c)) := by rw [← hpp.1.1]; exact hb.at (i := 0) rfl
    have c1 : w.cell? ⟨g, 1, none⟩ = some (.int .i64 pl) := hb.at (i := 1) rfl
    have hgl := hb.lt
    have HIL := Lib.hid ihl
    have HIR := Lib.hid ihr
    have hnp : ((pl : Int) + 1) % (dims : Int) = (((pl + 1) % dims : Nat) : Int) := by simp
    have HNP := Lib.hid hnp
    have HQ := Lib.hid hq
    have HPP := Lib.hid hpp
    have HAB := Lib.hid (And.intro ha (And.intro hb2 hle0))
    have HB := Lib.hid (And.intro hb (And.intro hl (And.intro hr (And.intro hN (And.intro hP (And.intro hEl hEr))))))
    have d0 : (pl : Int) < dims := by omega
    have d1 : (0 : Int) < dims := by omega
    have d2 : ((dims : Int) == 0) = false := by
      have : (dims : Int) ≠ 0 := by omega
      simpa using this
    have d3 : IntKind.i64.wrap ((pl : Int) + 1) = (pl : Int) + 1 := IntWalk.i64_in _ (by omega)
    clear ihl ihr hnp hq hpp ha hb2 hle0 hb hl hr hN hP hEl hEr
    have CMP : Hid (∀ w1 : World, Mod (fun _ => False) w w1 → Calls Try.prog 133 #[.slice q.A dims q.c, .iface 73 (.slice p.A dims p.c), .int .i64 pl] w1 fun e w' => (∃ r, e = .returned (.float .f64 r) ∧ (FloatKind.f64.format.order r 0 == some .lt || FloatKind.f64.format.order r 0 == some .eq) = decide (a ≤ b)) ∧ Mod (fun _ => False) w w') := by
      intro w1 hm
      exact (pcompare_at w1 dims pl pl q p a b rfl (HQ.out.mod0 hm) (HPP.out.1.mod0 hm) HAB.out.1 HAB.out.2.1 hpl hdm.2).mono fun e w' ⟨⟨r, he, hr⟩, hm2⟩ => ⟨⟨r, he, le_look hr⟩, hm.trans hm2⟩
    by_cases hab : a ≤ b
    · have hdec : decide (a ≤ b) = true := decide_eq_true hab
      rw [hdec] at CMP HAB
      clear hdec hab
      go_enter Try.func64, Try.ntmps64
      go_wp2_with fail
      go_quiet ((go_at_call 134; exact Calls.quiet_of_same ((pdims_at _ q.A dims q.c).mono (fun e w' h => ⟨h.1, h.2.symm⟩))))
      go_wp2_with fail
      go_region_held3 (fun w' => w'.cell? ⟨g, 0, none⟩ = some (.iface 73 (.slice p.A dims p.c)) ∧ w'.cell? ⟨g, 1, none⟩ = some (.int .i64 pl)) (first | exact ⟨c0, c1⟩ | exact ⟨(hm2.cell hgl (fun h => h)).trans c0, (hm2.cell hgl (fun h => h)).trans c1⟩)
        (first | (go_at_call 133; refine (CMP.out _ (by first | exact ((Mod.refl _ _).drewN _).drew | exact (Mod.refl _ _).drewN _)).mono ?_; rintro _ w2 ⟨⟨fr, rfl, hfr⟩, hm2⟩))
      have k2 : w2.cell? ⟨g, 2, none⟩ = some (.pointer ql) := (HB.out.1.mod hm2 (fun h => h)).at (i := 2) rfl
      go_wp2_with (go_at_call 64; refine (HIL.out _ (.pointer ql) ((pl + 1) % dims) _ HNP.out (HB.out.2.1.mod hm2 (fun _ _ h => h)) (List.nodup_append.1 (List.nodup_cons.1 HB.out.2.2.2.1).2).1 (HQ.out.mod0 hm2) (fun p' hp' => ⟨(HB.out.2.2.2.2.1 p' (by simp [MT.pts, hp'])).1.mod0 hm2, (HB.out.2.2.2.2.1 p' (by simp [MT.pts, hp'])).2⟩) HB.out.2.2.2.2.2.1).mono ?_; rintro _ w3 ⟨v', nt, rfl, i1, i2, i3, i4, i5, i6⟩; obtain ⟨qv, rfl⟩ := i1.ptr; have y2 : w3.cell? ⟨g, 2, none⟩ = some (.pointer ql) := ((HB.out.1.mod hm2 (fun h => h)).mod i6 (fun h => (List.nodup_cons.1 HB.out.2.2.2.1).1 (List.mem_append.2 (.inl h)))).at (i := 2) rfl; have z2 : w3.frozen? ⟨g, 2, none⟩ = false := ((HB.out.1.mod hm2 (fun h => h)).mod i6 (fun h => (List.nodup_cons.1 HB.out.2.2.2.1).1 (List.mem_append.2 (.inl h)))).frozen 2; have HT := Lib.hid (And.intro i1 (And.intro i2 (And.intro i3 (And.intro i4 (And.intro i5 i6))))); clear i1 i2 i3 i4 i5 i6)
      go_ret
      exact ins_left HB.out.1 HB.out.2.2.1 HB.out.2.2.2.1 (HB.out.2.1.lt) HAB.out.2.2 hm2 HT.out.1 HT.out.2.1 HT.out.2.2.1 HT.out.2.2.2.1 HT.out.2.2.2.2.1 HT.out.2.2.2.2.2
    · have hdec : decide (a ≤ b) = false := decide_eq_false hab
      rw [hdec] at CMP HAB
      clear hdec hab
      go_enter Try.func64, Try.ntmps64
      go_wp2_with fail
      go_quiet ((go_at_call 134; exact Calls.quiet_of_same ((pdims_at _ q.A dims q.c).mono (fun e w' h => ⟨h.1, h.2.symm⟩))))
      go_wp2_with fail
      go_region_held3 (fun w' => w'.cell? ⟨g, 0, none⟩ = some (.iface 73 (.slice p.A dims p.c)) ∧ w'.cell? ⟨g, 1, none⟩ = some (.int .i64 pl)) (first | exact ⟨c0, c1⟩ | exact ⟨(hm2.cell hgl (fun h => h)).trans c0, (hm2.cell hgl (fun h => h)).trans c1⟩)
        (first | (go_at_call 133; refine (CMP.out _ (by first | exact ((Mod.refl _ _).drewN _).drew | exact (Mod.refl _ _).drewN _)).mono ?_; rintro _ w2 ⟨⟨fr, rfl, hfr⟩, hm2⟩))
      have k2 : w2.cell? ⟨g, 3, none⟩ = some (.pointer qr) := (HB.out.1.mod hm2 (fun h => h)).at (i := 3) rfl
      go_wp2_with (go_at_call 64; refine (HIR.out _ (.pointer qr) ((pl + 1) % dims) _ HNP.out (HB.out.2.2.1.mod hm2 (fun _ _ h => h)) (List.nodup_append.1 (List.nodup_cons.1 HB.out.2.2.2.1).2).2.1 (HQ.out.mod0 hm2) (fun p' hp' => ⟨(HB.out.2.2.2.2.1 p' (by simp [MT.pts, hp'])).1.mod0 hm2, (HB.out.2.2.2.2.1 p' (by simp [MT.pts, hp'])).2⟩) HB.out.2.2.2.2.2.2).mono ?_; rintro _ w3 ⟨v', nt, rfl, i1, i2, i3, i4, i5, i6⟩; obtain ⟨qv, rfl⟩ := i1.ptr; have y2 : w3.cell? ⟨g, 3, none⟩ = some (.pointer qr) := ((HB.out.1.mod hm2 (fun h => h)).mod i6 (fun h => (List.nodup_cons.1 HB.out.2.2.2.1).1 (List.mem_append.2 (.inr h)))).at (i := 3) rfl; have z2 : w3.frozen? ⟨g, 3, none⟩ = false := ((HB.out.1.mod hm2 (fun h => h)).mod i6 (fun h => (List.nodup_cons.1 HB.out.2.2.2.1).1 (List.mem_append.2 (.inr h)))).frozen 3; have HT := Lib.hid (And.intro i1 (And.intro i2 (And.intro i3 (And.intro i4 (And.intro i5 i6))))); clear i1 i2 i3 i4 i5 i6)
      go_ret
      exact ins_right HB.out.1 HB.out.2.1 HB.out.2.2.2.1 (HB.out.2.2.1.lt) HAB.out.2.2 hm2 HT.out.1 HT.out.2.1 HT.out.2.2.1 HT.out.2.2.2.1 HT.out.2.2.2.2.1 HT.out.2.2.2.2.2
end Go.Proofs.Ytmeooadgdagiiaa
