/- Steps of a proof, one behind another: The walk of Contains: whether a point is within a box. The memory of the operation of the walk through a box, and its walk where it is never stopped. The walk of doBounded over a k-d tree in memory. The walk of the operation that the thin package hands to Do. The walks of the tree's Do and its node's do, with the thin package's operation. Conditions: as each theorem says. -/
import Derived.Test.YtmeooadgdagiiaaMr15
import Derived.BigQuiet
import Derived.Deep.AppendLies
import Derived.Deep.RegionLaw
import Derived.Deep.DrawnRows
import Derived.Deep.DeepCutAuto
import Derived.Deep.RegionHeld3

namespace Lox
/-- A point is within a box, by numbers. -/
def inBox (lo hi p : List Nat) : Prop := ∀ d, d < p.length → zi (lo.getD d 0) ≤ zi (p.getD d 0) ∧ zi (p.getD d 0) ≤ zi (hi.getD d 0)
noncomputable instance (lo hi p : List Nat) : Decidable (inBox lo hi p) := by unfold inBox; infer_instance
end Lox
namespace Go.Proofs.Ytmeooadgdagiiaa.W
open Go.RowKit Lox
set_option linter.unusedVariables false
attribute [local go_sem] run_store_flt run_store_fn undef
attribute [local go_sem ↓] Go.wp_at_zero Go.wp_at_succ

set_option maxHeartbeats 1000000 in
theorem pcompare_q (w : World) (dims d : Nat) (p q : TP) (r : Nat) (hp : p.Ok w dims) (hq : q.Ok w dims) (hr : Ieee.double.sub (p.n d) (q.n d) = some r) (hd : d < dims) (hdm : dims ≤ 1099511627776) :
    Calls Try.prog 133 #[.slice p.A dims p.c, .iface 73 (.slice q.A dims q.c), .int .i64 d] w fun e w' => e = .returned (.float .f64 r) ∧ ∃ m, w' = w.drewN m := by
  have hta := run_assert_pt
  obtain ⟨l1, s1, z1⟩ := hp
  obtain ⟨l2, s2, z2⟩ := hq
  rw [l1] at z1
  rw [l2] at z2
  obtain ⟨b1, o1, e1, r1⟩ := z1 (by omega)
  obtain ⟨b2, o2, e2, r2⟩ := z2 (by omega)
  have k1 : w.cell? ⟨b1, o1 + d, none⟩ = some (.float .f64 (p.n d)) := r1 d _ (by
    have hh : d < p.xs.length := by omega
    simp [flts, TP.n, hh])
  have k2 : w.cell? ⟨b2, o2 + d, none⟩ = some (.float .f64 (q.n d)) := r2 d _ (by
    have hh : d < q.xs.length := by omega
    simp [flts, TP.n, hh])
  have d1 : (0 : Int) ≤ d := by omega
  have d2 : (d : Int) < dims := by omega
  have hsub : ∀ (t : TypeId) (w : World), (binOp .sub t (.float .f64 (p.n d)) (.float .f64 (q.n d))).run Try.prog w = .ok (.float .f64 r) w := fun t w => run_float_arith w .sub t .f64 _ _ r hr
  rw [e1, e2]
  clear s1 s2 z1 z2 r1 r2 e1 e2 l1 l2 hr
  generalize p.n d = x at k1 hsub
  generalize q.n d = y at k2 hsub
  go_enter Try.func133, Try.ntmps133
  go_wp2
  go_region
  all_goals (go_wp2; go_ret)
  all_goals exact ⟨rfl, 1, rfl⟩

/-- What Compare tells, by numbers. -/
theorem pcmp_val (dims d : Nat) (p q : TP) (lp : p.xs.length = dims) (lq : q.xs.length = dims) (gp : p.Gr) (gq : q.Gr) (hd : d < dims) :
    ∃ r, Ieee.double.sub (p.n d) (q.n d) = some r ∧ (FloatKind.f64.format.order r 0 == some .lt) = decide (zi (p.xs.getD d 0) < zi (q.xs.getD d 0)) ∧ (FloatKind.f64.format.order 0 r == some .lt) = decide (zi (q.xs.getD d 0) < zi (p.xs.getD d 0)) := by
  obtain ⟨a, ha⟩ := gp d (by omega)
  obtain ⟨b, hb⟩ := gq d (by omega)
  obtain ⟨r, hr, hg⟩ := Gd.sub ha.1 hb.1 (by omega) (by have := ha.2; have := hb.2; omega)
  have e1 : zi (p.xs.getD d 0) = a := zi_eq (by simpa [TP.n, List.getD] using ha)
  have e2 : zi (q.xs.getD d 0) = b := zi_eq (by simpa [TP.n, List.getD] using hb)
  have hz : Gd 0 0 0 := gd0_of_is is_zero
  refine ⟨r, hr, ?_, ?_⟩
  · rw [hg.lt hz, e1, e2]; congr 1; apply propext; omega
  · rw [hz.lt hg, e1, e2]; congr 1; apply propext; omega

/-- A box stands at block g: its least and its greatest point. -/
structure BoxAt (w : World) (dims g : Nat) (lo hi : TP) : Prop where
  blk : Blk w g 129 [.iface 73 (.slice lo.A dims lo.c), .iface 73 (.slice hi.A dims hi.c)]
  lo : lo.Ok w dims ∧ lo.Gr
  hi : hi.Ok w dims ∧ hi.Gr

theorem BoxAt.mod {w w' : World} {dims g : Nat} {lo hi : TP} {S : Nat → Prop} (h : BoxAt w dims g lo hi) (hm : Mod S w w') (hg : ¬ S g) (h1 : ∀ b o, lo.A = some ⟨b, o, none⟩ → ¬ S b) (h2 : ∀ b o, hi.A = some ⟨b, o, none⟩ → ¬ S b) : BoxAt w' dims g lo hi :=
  ⟨h.blk.mod hm hg, ⟨h.lo.1.modS hm h1, h.lo.2⟩, ⟨h.hi.1.modS hm h2, h.hi.2⟩⟩

theorem BoxAt.mod0 {w w' : World} {dims g : Nat} {lo hi : TP} (h : BoxAt w dims g lo hi) (hm : Mod (fun _ => False) w w') : BoxAt w' dims g lo hi := h.mod hm (fun h => h) (fun _ _ _ h => h) (fun _ _ _ h => h)

set_option maxRecDepth 100000 in
set_option maxHeartbeats 8000000 in
theorem contains_at (w : World) (dims g : Nat) (lo hi p : TP) (hb : BoxAt w dims g lo hi) (hp : p.Ok w dims) (hg : p.Gr) (hdm : 0 < dims ∧ dims ≤ 1099511627776) :
    Calls Try.prog 76 #[.pointer (some ⟨g, 0, none⟩), .iface 73 (.slice p.A dims p.c)] w fun e w' => e = .returned (.bool (decide (inBox lo.xs hi.xs p.xs))) ∧ Mod (fun _ => False) w w' := by
  have m1 := kmeth_dims
  have m2 := kmeth_compare
  have m3 := kahead_compare
  have HB := Lib.hid hb
  have HP := Lib.hid (And.intro hp hg)
  clear hb hp hg
  go_enter Try.func76, Try.ntmps76
  go_wp2_with fail
  go_loopw [5] (fun i wr => ∃ k : Nat, k ≤ dims ∧ i = .int .i64 k ∧ Hid (Mod (fun _ => False) w wr ∧ ∀ d, d < k → zi (lo.xs.getD d 0) ≤ zi (p.xs.getD d 0) ∧ zi (p.xs.getD d 0) ≤ zi (hi.xs.getD d 0))) (fun i _ => dims - (intOf i).toNat)
  case atStart => exact ⟨0, Nat.zero_le _, rfl, Mod.refl _ _, fun d hd => by omega⟩
  case round =>
    obtain ⟨k, hk, rfl, HR⟩ := hrel
    by_cases hlt : k < dims
    · have hB := HB.out.mod0 HR.out.1
      have b0 := hB.blk.at (i := 0) rfl
      have b1 := hB.blk.at (i := 1) rfl
      obtain ⟨r1, s1, f1, -⟩ := pcmp_val dims k p lo HP.out.1.1 HB.out.lo.1.1 HP.out.2 HB.out.lo.2 hlt
      obtain ⟨r2, s2, -, f2⟩ := pcmp_val dims k p hi HP.out.1.1 HB.out.hi.1.1 HP.out.2 HB.out.hi.2 hlt
      have HC1 : Hid (∀ w1 : World, Mod (fun _ => False) w w1 → Calls Try.prog 133 #[.slice p.A dims p.c, .iface 73 (.slice lo.A dims lo.c), .int .i64 k] w1 fun e w' => e = .returned (.float .f64 r1) ∧ ∃ m, w' = w1.drewN m) := fun w1 hm => pcompare_q w1 dims k p lo r1 (HP.out.1.mod0 hm) ((HB.out.mod0 hm).lo.1) s1 hlt hdm.2
      have HC2 : Hid (∀ w1 : World, Mod (fun _ => False) w w1 → Calls Try.prog 133 #[.slice p.A dims p.c, .iface 73 (.slice hi.A dims hi.c), .int .i64 k] w1 fun e w' => e = .returned (.float .f64 r2) ∧ ∃ m, w' = w1.drewN m) := fun w1 hm => pcompare_q w1 dims k p hi r2 (HP.out.1.mod0 hm) ((HB.out.mod0 hm).hi.1) s2 hlt hdm.2
      have hgl := hB.blk.lt
      clear hB s1 s2
      go_wp2_with (go_at_call 134; refine (pdims_at _ p.A dims p.c).mono ?_; rintro _ _ ⟨rfl, rfl⟩)
      by_cases hc1 : zi (p.xs.getD k 0) < zi (lo.xs.getD k 0)
      · rw [decide_eq_true hc1] at f1
        have HC := Lib.hid hc1
        clear hc1
        go_quiet ((go_at_call 133; refine Calls.quiet_of (HC1.out _ (HR.out.1.drewN _))))
        go_wp2_with fail
        go_ret
        exact ⟨congrArg (fun b => Ending.returned (.bool b)) (decide_eq_false (fun h => absurd (h k (by rw [HP.out.1.1]; exact hlt)).1 (Int.not_le.2 HC.out))).symm, HR.out.1.drewN _⟩
      · rw [decide_eq_false hc1] at f1
        have HC := Lib.hid hc1
        clear hc1
        by_cases hc2 : zi (hi.xs.getD k 0) < zi (p.xs.getD k 0)
        · rw [decide_eq_true hc2] at f2
          have HC' := Lib.hid hc2
          clear hc2
          go_quiet ((go_at_call 133; first | with_reducible exact Calls.quiet_of (HC1.out _ (HR.out.1.drewN _)) | with_reducible exact Calls.quiet_of (HC2.out _ (HR.out.1.drewN _))))
          go_wp2_with fail
          go_ret
          exact ⟨congrArg (fun b => Ending.returned (.bool b)) (decide_eq_false (fun h => absurd (h k (by rw [HP.out.1.1]; exact hlt)).2 (Int.not_le.2 HC'.out))).symm, HR.out.1.drewN _⟩
        · rw [decide_eq_false hc2] at f2
          have HC' := Lib.hid hc2
          clear hc2
          go_quiet ((go_at_call 133; first | with_reducible exact Calls.quiet_of (HC1.out _ (HR.out.1.drewN _)) | with_reducible exact Calls.quiet_of (HC2.out _ (HR.out.1.drewN _))))
          go_wp2_with fail
          go_roundw
          case rel =>
            refine ⟨k + 1, by omega, by go_num, HR.out.1.drewN _, fun d hd => ?_⟩
            rcases Nat.lt_or_ge d k with h | h
            · exact HR.out.2 d h
            · obtain rfl : d = k := by omega
              exact ⟨HC.out, HC'.out⟩
          case measure => simp [intOf]; omega
    · obtain rfl : k = dims := by omega
      go_wp2_with (go_at_call 134; refine (pdims_at _ p.A k p.c).mono ?_; rintro _ _ ⟨rfl, rfl⟩)
      go_ret
      exact ⟨congrArg (fun b => Ending.returned (.bool b)) (decide_eq_true (p := inBox lo.xs hi.xs p.xs) (fun d hd => HR.out.2 d (by rw [← HP.out.1.1]; exact hd))).symm, HR.out.1⟩
end Go.Proofs.Ytmeooadgdagiiaa.W

namespace Go.Proofs.Ytmeooadgdagiiaa.W
open Go.RowKit Lox
set_option linter.unusedVariables false
attribute [local go_sem] run_store_flt run_store_fn
attribute [local go_sem ↓] Go.wp_at_zero Go.wp_at_succ

theorem info_row3 : (Try.prog.info? 26).map (fun i => (i.zero, i.size, i.bytes)) = some (some (.slice none 0 0), 1, 24) := by kernel_rfl

/-- The points of a list, each in memory of its own. -/
def Pts1 (B : Nat) (w : World) (v1 : Value) (gs : List Value) (ls : List (List Nat)) : Prop :=
  gs.length = ls.length ∧ ∀ (i : Nat) (v : Value) (xs : List Nat), gs[i]? = some v → ls[i]? = some xs → ∃ A n c, v = .slice A n c ∧ n ≤ 1099511627776 ∧ Sl w A n 1 (flts xs) ∧ ∀ b o, A = some ⟨b, o, none⟩ → (B ≤ b ∧ b < w.heap.size) ∧ v1.ownBlock ≠ some b

/-- The memory: wB is the world where the walk began, H where the variables lie. -/
structure RW (H : Nat) (wB w : World) (ls : List (List Nat)) : Prop where
  mod : Mod (fun k => k = H + 1) wB w
  low : H + 4 ≤ wB.heap.size
  rows : ∃ v1 gs, Blk w (H + 1) 22 [v1] ∧ w.ownsRow wB.heap.size 26 1 v1 ls.length gs ∧ Pts1 wB.heap.size w v1 gs ls

theorem RW.drewN {H : Nat} {wB w : World} {ls : List (List Nat)} (h : RW H wB w ls) (n : Nat) : RW H wB (w.drewN n) ls := ⟨h.mod.drewN n, h.low, h.rows⟩
theorem RW.drew {H : Nat} {wB w : World} {ls : List (List Nat)} (h : RW H wB w ls) : RW H wB w.drew ls := ⟨h.mod.drew, h.low, h.rows⟩

theorem RW.mod0 {H : Nat} {wB w w' : World} {ls : List (List Nat)} (h : RW H wB w ls) (hm : Mod (fun _ => False) w w') : RW H wB w' ls := by
  obtain ⟨v1, gs, b1, o1, hp⟩ := h.rows
  have hs := hm.size
  refine ⟨h.mod.trans (hm.mono fun _ _ h => h.elim), h.low, v1, gs, b1.mod hm (fun h => h), o1.kept hm.grownBy (Decidable.em _), hp.1, fun i v xs hv hx => ?_⟩
  obtain ⟨A, n, c, e, hn, hsl, hA⟩ := hp.2 i v xs hv hx
  exact ⟨A, n, c, e, hn, hsl.mod hm, fun b o e => ⟨⟨(hA b o e).1.1, by have := (hA b o e).1.2; omega⟩, (hA b o e).2⟩⟩

section
variable {H : Nat} {wB w w1 w3 : World} {ls : List (List Nat)}

theorem RW.push (h : RW H wB w ls) {v1 : Value} {gs : List Value} (b1 : Blk w (H + 1) 22 [v1]) (o1 : w.ownsRow wB.heap.size 26 1 v1 ls.length gs)
    (hp : Pts1 wB.heap.size w v1 gs ls) {A : Option Addr} {m c : Nat} {xs : List Nat} {o : Obj} {g cap : Nat} (hm : Mod (fun _ => False) w w1) (hs : Sl w1 A m 1 (flts xs)) (hA : ∀ b o, A = some ⟨b, o, none⟩ → w.heap.size ≤ b ∧ b < w1.heap.size) (hml : m ≤ 1099511627776)
    (hown : w3.ownsRow wB.heap.size 26 1 (.slice (some ⟨g, 0, none⟩) (ls.length + 1) cap) (ls.length + 1) (gs ++ [.slice A m c])) (hg : (w1.alloc o).grownBy w3 v1.ownBlock) (hat : v1.ownBlock = some g ∨ g = w1.heap.size + 1) :
    RW H wB (w3.setCell ⟨H + 1, 0, none⟩ (.slice (some ⟨g, 0, none⟩) (ls.length + 1) cap)) (ls ++ [xs]) := by
  have hlow := h.low
  have hBw := h.mod.size
  have hs1 := hm.size
  have hal : (w1.alloc o).heap.size = w1.heap.size + 1 := World.size_alloc _ _
  have hgs := hg.size
  have keep : ∀ k, k < w.heap.size → k ≠ H + 1 → v1.ownBlock ≠ some k → (w3.setCell ⟨H + 1, 0, none⟩ (.slice (some ⟨g, 0, none⟩) (ls.length + 1) cap)).heap[k]? = w.heap[k]? := fun k hk h1 h2 =>
    (Below.heap_setCell _ _ _ _ h1).trans ((hg.block k (by omega) (fun e => h2 e.symm)).trans ((Below.heap_alloc _ _ _ (by omega)).trans (hm.block k hk (fun h => h))))
  have n1 : v1.ownBlock ≠ some (H + 1) := fun e => by have := (own_ge' o1 e).1; omega
  refine ⟨⟨?_, ?_, ?_, ?_, fun k hk hn => ?_⟩, hlow, .slice (some ⟨g, 0, none⟩) (ls.length + 1) cap, gs ++ [.slice A m c], ?_, ?_, ⟨by simp [hp.1], fun i v ys hv hy => ?_⟩⟩
  · exact (hg.os.trans hm.os).trans h.mod.os
  · exact (hg.tape.trans hm.tape).trans h.mod.tape
  · exact (hg.output.trans hm.output).trans h.mod.output
  · simp [World.setCell]; omega
  · exact (keep k (by omega) (fun e => hn e) (fun e => by have := (own_ge' o1 e).1; omega)).trans (h.mod.block k hk hn)
  · have hb : Blk w3 (H + 1) 22 [v1] := ((b1.mod hm (fun h => h)).alloc o).grown hg (fun e => n1 e.symm)
    exact hb.set 0 _
  · rw [List.length_append]
    exact owns_keep hown fun k hk _ => Below.heap_setCell _ _ _ _ (by show k ≠ H + 1; omega)
  · rcases Nat.lt_or_ge i gs.length with hi | hi
    · rw [List.getElem?_append_left hi] at hv
      rw [List.getElem?_append_left (by rw [← hp.1]; exact hi)] at hy
      obtain ⟨A', n', c', e, hn', hs', hA'⟩ := hp.2 i v ys hv hy
      refine ⟨A', n', c', e, hn', sl_keep2 hs' fun b o e hb => keep b hb (by have := (hA' b o e).1.1; omega) (hA' b o e).2, fun b o e => ⟨⟨(hA' b o e).1.1, by have := (hA' b o e).1.2; simp [World.setCell]; omega⟩, fun e2 => ?_⟩⟩
      simp only [Value.ownBlock, Option.some.injEq] at e2
      subst e2
      rcases hat with hat | hat
      · exact (hA' _ o e).2 hat
      · have := (hA' _ o e).1.2; omega
    · rw [List.getElem?_append_right hi] at hv
      rw [List.getElem?_append_right (by rw [← hp.1]; exact hi)] at hy
      have h0 : i - gs.length = 0 := by
        rcases Nat.eq_zero_or_pos (i - gs.length) with h0 | h0
        · exact h0
        · rw [List.getElem?_eq_none (by simp; omega)] at hv; cases hv
      rw [h0] at hv
      rw [← hp.1, h0] at hy
      simp at hv hy
      subst hv hy
      refine ⟨A, m, c, rfl, hml, sl_keep2 hs fun b o e hb => (Below.heap_setCell _ _ _ _ (by have := (hA b o e).1; show b ≠ H + 1; omega)).trans ((hg.block b (by omega) (fun e2 => by have := (own_ge' o1 e2.symm).2; have := (hA b o e).1; omega)).trans (Below.heap_alloc _ _ _ hb)), fun b o e => ⟨⟨by have := (hA b o e).1; omega, by have := (hA b o e).2; simp [World.setCell]; omega⟩, fun e2 => ?_⟩⟩
      simp only [Value.ownBlock, Option.some.injEq] at e2
      subst e2
      rcases hat with hat | hat
      · have := (own_ge' o1 hat).2; have := (hA _ o e).1; omega
      · have := (hA _ o e).2; omega
end

set_option maxHeartbeats 4000000 in
theorem opIn_at (H : Nat) (wB w : World) (ls : List (List Nat)) (D : Int) (bq : Option Addr) (A : Option Addr) (m cc : Nat) (xs : List Nat) (h : RW H wB w ls) (hst : Blk wB H 3 [.int .i64 0]) (hs : Sl w A m 1 (flts xs)) (h0 : 0 < m) (hm : m ≤ 1099511627776) (hls : ls.length ≤ 2147483647) :
    Calls Try.prog 48 #[.iface 73 (.slice A m cc), .pointer bq, .int .i64 D, .pointer (some ⟨H + 1, 0, none⟩), .pointer (some ⟨H, 0, none⟩)] w fun e w' => e = .returned (.bool false) ∧ RW H wB w' (ls ++ [xs]) := by
  have hta := run_assert_pt
  obtain ⟨i0, hi0, hz0, hz1, hz2⟩ := info_parts info_row3
  have HI := Lib.hid (And.intro hi0 (And.intro hz0 (And.intro hz1 hz2)))
  clear hi0 hz0 hz1 hz2
  obtain ⟨v1, gs, b1, o1, hp⟩ := h.rows
  have cL := b1.at (i := 0) rfl
  have fL := b1.frozen 0
  have hlow := h.low
  have hB := h.mod.size
  have n1 : v1.ownBlock ≠ some (H + 1) := fun e => by have := (own_ge' o1 e).1; omega
  have hL : H + 1 < w.heap.size := by omega
  have HK := Lib.hid (And.intro h (And.intro b1 (And.intro o1 hp)))
  have HS : Hid (Sl w A m 1 (flts xs) ∧ Blk wB H 3 [.int .i64 0]) := ⟨hs, hst⟩
  clear h b1 o1 hp hs hst
  go_enter Try.func48, Try.ntmps48
  go_wp2_with fail
  go_cut [] from 9 to 14 (fun wx => RW H wB wx (ls ++ [xs]))
  case first =>
    go_region_law
      (first
        | (go_simp; go_at_call 33; (refine (floats_any A m cc xs _ HS.out.1.drew hm h0).mono ?_; rintro _ w1 ⟨A2, c2, rfl, hs2, hm2, hb2⟩; have hw1 : Mod (fun _ => False) w w1 := ((Mod.refl _ _).drew.trans hm2); have hz := hw1.size; have hL1 : H + 1 < w1.heap.size := (by omega); have cL1 : w1.cell? ⟨H + 1, 0, none⟩ = some v1 := (hw1.cell hL (fun h => h)).trans cL))
        | ((refine step_append_lies _ (by rfl) _ _ _ (by rfl) wB.heap.size 26 i0 _ 1 24 Try.underlying22 HI.out.1 HI.out.2.1 HI.out.2.2.1 HI.out.2.2.2 rfl (by omega) v1 ls.length gs (by rfl) ((HK.out.2.2.1.kept hw1.grownBy (Decidable.em _)).alloc _) ⟨w1.heap.size, 0, none⟩ 1 1 [.slice A2 m c2] (by rfl) (by rfl) (World.news_of_block (cs := #[.slice A2 m c2]) (t := 26) (fr := (0, 0)) (heap_alloc_new w1 _)) (by simp [Value.oneCell']) (by omega) (by unfold maxLen; omega) (by omega) (by simp; omega) (w1.heap.size + 1) (by simp) ?_; intro gg cap w3 hown3 hgrow hat hlt3; have cL3 : w3.cell? ⟨H + 1, 0, none⟩ = some v1 := (hgrow.cell_far _ (by rw [World.size_alloc]; exact Nat.lt_succ_of_lt hL1) (Ne.symm n1)).trans ((World.cell?_alloc_past _ _ _ hL1).trans cL1); have fz3 : w3.frozen? ⟨H + 1, 0, none⟩ = false := (hgrow.frozen_far _ (by rw [World.size_alloc]; exact Nat.lt_succ_of_lt hL1) (Ne.symm n1)).trans ((World.frozen?_alloc_past _ _ _ hL1).trans ((hw1.frozen hL (fun h => h)).trans fL)))))
    all_goals
      go_wp2_with fail
      go_meet
      exact HK.out.1.push HK.out.2.1 HK.out.2.2.1 HK.out.2.2.2 hw1 hs2 (fun b o e => ⟨hb2 b o e, hs2.far (by omega) h0 b o e⟩) hm hown3 hgrow hat
  case rest =>
    clear cL fL
    obtain ⟨u1, gs1, b1, o1, hp⟩ := hcut.rows
    have hl1 : 0 < (ls ++ [xs]).length := by simp
    obtain ⟨bb, ccap, rfl, hbb, hbl⟩ := o1.form hl1
    obtain ⟨q, hq⟩ : ∃ q, q = (ls ++ [xs]).length := ⟨_, rfl⟩
    have hq2 : q = ls.length + 1 := by rw [hq]; simp
    have cL : wc.cell? ⟨H + 1, 0, none⟩ = some (.slice (some ⟨bb, 0, none⟩) q ccap) := by rw [hq]; exact b1.at (i := 0) rfl
    have hB2 := hcut.mod.size
    have cS : wc.cell? ⟨H, 0, none⟩ = some (.int .i64 0) := (hcut.mod.cell (by show H < _; omega) (by simp)).trans (HS.out.2.at (i := 0) rfl)
    have hq0 : ((q : Int) == 0) = false := by
      have : (q : Int) ≠ 0 := by omega
      simpa using this
    have HK2 := Lib.hid hcut
    clear hcut b1 o1 hp hq hl1
    go_wp2_with fail
    go_ret
    exact ⟨rfl, HK2.out⟩
end Go.Proofs.Ytmeooadgdagiiaa.W

namespace Go.Proofs.Ytmeooadgdagiiaa
open Go.RowKit Lox
/-- What the walk through a box tells of a tree. -/
noncomputable def MT.within (lo hi : List Nat) : MT → List (List Nat)
  | .nil => []
  | .node _ p d _ l r => (if zi (lo.getD d 0) < zi (p.xs.getD d 0) then l.within lo hi else []) ++ ((if inBox lo hi p.xs then [p.xs] else []) ++ (if zi (p.xs.getD d 0) < zi (hi.getD d 0) then r.within lo hi else []))

def MT.isN : MT → Bool
  | .nil => false
  | .node .. => true

theorem MT.isN_of {t : MT} (h : t ≠ .nil) : t.isN = true := by
  cases t with
  | nil => exact absurd rfl h
  | node => rfl

theorem MT.within_len (lo hi : List Nat) : ∀ t : MT, (t.within lo hi).length ≤ t.count := by
  intro t
  induction t with
  | nil => exact Nat.le_refl _
  | node g p d bx l r ihl ihr =>
    simp only [MT.within, MT.count, List.length_append]
    have h1 : (if zi (lo.getD d 0) < zi (p.xs.getD d 0) then l.within lo hi else []).length ≤ l.count := by split; exact ihl; exact Nat.zero_le _
    have h2 : (if inBox lo hi p.xs then [p.xs] else []).length ≤ 1 := by split; exact Nat.le_refl _; exact Nat.zero_le _
    have h3 : (if zi (p.xs.getD d 0) < zi (hi.getD d 0) then r.within lo hi else []).length ≤ r.count := by split; exact ihr; exact Nat.zero_le _
    omega
end Go.Proofs.Ytmeooadgdagiiaa
namespace Go.Proofs.Ytmeooadgdagiiaa.W
open Go.RowKit Lox
set_option linter.unusedVariables false
attribute [local go_sem] run_store_flt run_store_fn
attribute [local go_sem ↓] Go.wp_at_zero Go.wp_at_succ

theorem blk_type {w : World} {k : Nat} {T T' : TypeId} {xs ys : List Value} (h : Blk w k T xs) (h' : Blk w k T' ys) : T = T' := by
  unfold Blk at h h'
  rw [h] at h'
  injection h' with h'
  injection h' with h1 h2

/-- What stands where the walk through the box begins. -/
structure DB (H : Nat) (wB : World) (dims gb : Nat) (lo hi : TP) : Prop where
  st : Blk wB H 3 [.int .i64 0]
  row : Blk wB (H + 1) 22 [.slice none 0 0]
  box : BoxAt wB dims gb lo hi

section
variable {H dims gb : Nat} {wB w : World} {lo hi : TP} {ls : List (List Nat)}

theorem DB.nf (h : DB H wB dims gb lo hi) : NoFlt wB (H + 1) := by
  intro o x hc
  rw [h.row.cell] at hc
  have hm := List.mem_of_getElem? hc
  simp at hm

theorem DB.ok (h : DB H wB dims gb lo hi) (hw : RW H wB w ls) {p : TP} (hp : p.Ok wB dims) : p.Ok w dims := hp.noFlt hw.mod fun k _ e => by subst e; exact h.nf

theorem DB.tin (h : DB H wB dims gb lo hi) (hw : RW H wB w ls) {t : MT} {v : Value} (ht : t.In wB v) : t.In w v :=
  ht.mod hw.mod fun k hk e => by
    obtain ⟨ys, hb⟩ := ht.node k hk
    subst e
    exact absurd (blk_type hb h.row) (by decide)

theorem DB.bx (h : DB H wB dims gb lo hi) (hw : RW H wB w ls) : BoxAt w dims gb lo hi :=
  ⟨h.box.blk.mod hw.mod (fun e => by subst e; exact absurd (blk_type h.box.blk h.row) (by decide)), ⟨h.ok hw h.box.lo.1, h.box.lo.2⟩, ⟨h.ok hw h.box.hi.1, h.box.hi.2⟩⟩
end

/-- What doBounded tells. -/
def DbTold (H : Nat) (wB : World) (L : List (List Nat)) (e : Ending) (w' : World) : Prop := e = .returned (.bool false) ∧ RW H wB w' L

set_option maxRecDepth 100000 in
set_option maxHeartbeats 8000000 in
theorem dob_at (H dims gb : Nat) (wB : World) (lo hi : TP) (hD : DB H wB dims gb lo hi) (hdm : 0 < dims ∧ dims ≤ 1099511627776) (t : MT) :
    ∀ (D : Int) (v : Value) (w : World) (ls : List (List Nat)), t ≠ .nil → t.In wB v → (∀ p ∈ t.pts, p.Ok wB dims ∧ p.Gr) → t.T.Each (fun _ d => d < dims) → RW H wB w ls → ls.length + t.count ≤ 2147483647 →
      Calls Try.prog 68 #[v, .func (Fn.func 48) #[] #[.pointer (some ⟨H + 1, 0, none⟩), .pointer (some ⟨H, 0, none⟩)], .pointer (some ⟨gb, 0, none⟩), .int .i64 D] w (DbTold H wB (ls ++ t.within lo.xs hi.xs)) := by
  have m2 := kmeth_compare
  have m3 := kahead_compare
  induction t with
  | nil => intro D v w ls h; exact absurd rfl h
  | node g p d bx l r ihl ihr =>
    intro D v w ls _ hI hP hE hw hlen
    obtain ⟨rfl, lv, rv, hb, hl, hr⟩ := id hI
    obtain ⟨ql, rfl⟩ := hl.ptr
    obtain ⟨qr, rfl⟩ := hr.ptr
    obtain ⟨hd, hEl, hEr⟩ := hE
    have hpp := hP p (by simp [MT.pts])
    have hlen1 : ls.length + (l.within lo.xs hi.xs).length + 1 + r.count ≤ 2147483647 := by have := l.within_len lo.xs hi.xs; simp only [MT.count] at hlen; omega
    obtain ⟨r1, s1, f1, -⟩ := pcmp_val dims d lo p hD.box.lo.1.1 hpp.1.1 hD.box.lo.2 hpp.2 hd
    obtain ⟨r2, s2, -, f2⟩ := pcmp_val dims d hi p hD.box.hi.1.1 hpp.1.1 hD.box.hi.2 hpp.2 hd
    have HC1 : Hid (∀ (w1 : World) (ls : List (List Nat)), RW H wB w1 ls → Calls Try.prog 133 #[.slice lo.A dims lo.c, .iface 73 (.slice p.A dims p.c), .int .i64 d] w1 fun e w' => e = .returned (.float .f64 r1) ∧ ∃ m, w' = w1.drewN m) := fun w1 ls hm => pcompare_q w1 dims d lo p r1 (hD.ok hm hD.box.lo.1) (hD.ok hm hpp.1) s1 hd hdm.2
    have HC2 : Hid (∀ (w1 : World) (ls : List (List Nat)), RW H wB w1 ls → Calls Try.prog 133 #[.slice hi.A dims hi.c, .iface 73 (.slice p.A dims p.c), .int .i64 d] w1 fun e w' => e = .returned (.float .f64 r2) ∧ ∃ m, w' = w1.drewN m) := fun w1 ls hm => pcompare_q w1 dims d hi p r2 (hD.ok hm hD.box.hi.1) (hD.ok hm hpp.1) s2 hd hdm.2
    have HCells : Hid (∀ (w1 : World) (ls : List (List Nat)), RW H wB w1 ls → w1.cell? ⟨g, 0, none⟩ = some (.iface 73 (.slice p.A dims p.c)) ∧ w1.cell? ⟨g, 1, none⟩ = some (.int .i64 d) ∧ w1.cell? ⟨g, 2, none⟩ = some (.pointer ql) ∧ w1.cell? ⟨g, 3, none⟩ = some (.pointer qr) ∧ w1.cell? ⟨g, 4, none⟩ = some (boxV bx) ∧ w1.cell? ⟨gb, 0, none⟩ = some (.iface 73 (.slice lo.A dims lo.c)) ∧ w1.cell? ⟨gb, 1, none⟩ = some (.iface 73 (.slice hi.A dims hi.c))) := by
      intro w1 ls hm
      have hb1 : Blk w1 g 122 (nodeCells p d (.pointer ql) (.pointer qr) bx) := hb.mod hm.mod (fun e => by subst e; exact absurd (blk_type hb hD.row) (by decide))
      have hx := (hD.bx hm).blk
      exact ⟨by rw [← hpp.1.1]; exact hb1.at (i := 0) rfl, hb1.at (i := 1) rfl, hb1.at (i := 2) rfl, hb1.at (i := 3) rfl, hb1.at (i := 4) rfl, hx.at (i := 0) rfl, hx.at (i := 1) rfl⟩
    obtain ⟨bq, hbq⟩ : ∃ bq, boxV bx = .pointer bq := by cases bx <;> exact ⟨_, rfl⟩
    rw [hbq] at HCells
    have HCON : Hid (∀ (w1 : World) (ls : List (List Nat)), RW H wB w1 ls → Calls Try.prog 76 #[.pointer (some ⟨gb, 0, none⟩), .iface 73 (.slice p.A dims p.c)] w1 fun e w' => e = .returned (.bool (decide (inBox lo.xs hi.xs p.xs))) ∧ Mod (fun _ => False) w1 w') := fun w1 ls hm => contains_at w1 dims gb lo hi p (hD.bx hm) (hD.ok hm hpp.1) hpp.2 hdm
    have HOP : Hid (∀ (w1 : World) (ls : List (List Nat)) (D : Int), RW H wB w1 ls → ls.length ≤ 2147483647 → Calls Try.prog 48 #[.iface 73 (.slice p.A dims p.c), .pointer bq, .int .i64 D, .pointer (some ⟨H + 1, 0, none⟩), .pointer (some ⟨H, 0, none⟩)] w1 fun e w' => e = .returned (.bool false) ∧ RW H wB w' (ls ++ [p.xs])) := fun w1 ls D hm hll => opIn_at H wB w1 ls D bq p.A dims p.c p.xs hm hD.st (by have := (hD.ok hm hpp.1).2; rw [hpp.1.1] at this; exact this) hdm.1 hdm.2 hll
    have HL : Hid (∀ (w1 : World) (ls : List (List Nat)) (D : Int), l ≠ .nil → RW H wB w1 ls → ls.length + l.count ≤ 2147483647 → Calls Try.prog 68 #[.pointer ql, .func (Fn.func 48) #[] #[.pointer (some ⟨H + 1, 0, none⟩), .pointer (some ⟨H, 0, none⟩)], .pointer (some ⟨gb, 0, none⟩), .int .i64 D] w1 (DbTold H wB (ls ++ l.within lo.xs hi.xs))) := fun w1 ls D hn hm hll => ihl D _ w1 ls hn hl (fun p hp => hP p (by simp [MT.pts, hp])) hEl hm hll
    have HR : Hid (∀ (w1 : World) (ls : List (List Nat)) (D : Int), r ≠ .nil → RW H wB w1 ls → ls.length + r.count ≤ 2147483647 → Calls Try.prog 68 #[.pointer qr, .func (Fn.func 48) #[] #[.pointer (some ⟨H + 1, 0, none⟩), .pointer (some ⟨H, 0, none⟩)], .pointer (some ⟨gb, 0, none⟩), .int .i64 D] w1 (DbTold H wB (ls ++ r.within lo.xs hi.xs))) := fun w1 ls D hn hm hll => ihr D _ w1 ls hn hr (fun p hp => hP p (by simp [MT.pts, hp])) hEr hm hll
    have hnl : (l = .nil → ql = none) ∧ (l ≠ .nil → ∃ k, ql = some ⟨k, 0, none⟩) := by
      cases l with
      | nil => exact ⟨fun _ => by have h : Value.pointer ql = .pointer none := hl; injection h, fun h => absurd rfl h⟩
      | node k _ _ _ _ _ => exact ⟨fun h => (by cases h), fun _ => ⟨k, by have h := hl.1; injection h⟩⟩
    have hnr : (r = .nil → qr = none) ∧ (r ≠ .nil → ∃ k, qr = some ⟨k, 0, none⟩) := by
      cases r with
      | nil => exact ⟨fun _ => by have h : Value.pointer qr = .pointer none := hr; injection h, fun h => absurd rfl h⟩
      | node k _ _ _ _ _ => exact ⟨fun h => (by cases h), fun _ => ⟨k, by have h := hr.1; injection h⟩⟩
    have HN := Lib.hid (And.intro hnl hnr)
    have HW := Lib.hid hw
    have HLEN := Lib.hid (And.intro hlen hlen1)
    clear hI hP hb hl hr hEl hEr hpp hw hlen hlen1 s1 s2 hbq ihl ihr hnl hnr
    obtain ⟨c0, c1, c2, -, -, g0, -⟩ := HCells.out w ls HW.out
    go_enter Try.func68, Try.ntmps68
    go_upto_region 1 with fail
    go_cut [31] from 9 to 30 (fun v wx => Hid (v = .bool (l.isN && decide (zi (lo.xs.getD d 0) < zi (p.xs.getD d 0))) ∧ RW H wB wx ls))
    case first =>
      by_cases hn : l = .nil
      · subst hn
        obtain rfl := HN.out.1.1 rfl
        go_quiet (fail)
        go_wp2_with fail
        go_meet
        exact ⟨rfl, HW.out.drewN _⟩
      · obtain ⟨k, rfl⟩ := HN.out.1.2 hn
        have hisn := MT.isN_of hn
        by_cases h1 : zi (lo.xs.getD d 0) < zi (p.xs.getD d 0)
        · rw [decide_eq_true h1] at f1
          have H1 := Lib.hid (decide_eq_true h1)
          clear h1
          go_quiet ((go_at_call 133; exact Calls.quiet_of (HC1.out _ _ (HW.out.drewN _))))
          go_wp2_with fail
          go_meet
          exact ⟨congrArg Value.bool (by rw [hisn, H1.out]; rfl), HW.out.drewN _⟩
        · rw [decide_eq_false h1] at f1
          have H1 := Lib.hid (decide_eq_false h1)
          clear h1
          go_quiet ((go_at_call 133; exact Calls.quiet_of (HC1.out _ _ (HW.out.drewN _))))
          go_wp2_with fail
          go_meet
          exact ⟨congrArg Value.bool (by rw [hisn, H1.out]; rfl), HW.out.drewN _⟩
    case rest =>
      obtain ⟨e31, hw1⟩ := hcut
      have HW1 := Lib.hid hw1
      subst e31
      clear hw1 c0 c1 c2 g0 f1
      obtain ⟨L1, eL1⟩ : ∃ L1, L1 = (if zi (lo.xs.getD d 0) < zi (p.xs.getD d 0) then l.within lo.xs hi.xs else []) := ⟨_, rfl⟩
      have HL1 := Lib.hid eL1
      clear eL1
      obtain ⟨-, -, c2, -, -, -, -⟩ := HCells.out wc ls HW1.out
      go_upto_if 31 with fail
      go_cut [8] from 31 to 41 (fun v wx => Hid (v = .bool false ∧ RW H wB wx (ls ++ L1)))
      case first =>
        by_cases hn : l = .nil
        · subst hn
          have h31 : (MT.nil.isN && decide (zi (lo.xs.getD d 0) < zi (p.xs.getD d 0))) = false := rfl
          rw [h31]
          go_wp2_with fail
          go_meet
          refine ⟨rfl, ?_⟩
          have e : L1 = [] := by rw [HL1.out]; split <;> rfl
          rw [e, List.append_nil]
          exact HW1.out
        · obtain ⟨k, rfl⟩ := HN.out.1.2 hn
          have hisn := MT.isN_of hn
          have HNN := Lib.hid hn
          clear hn
          by_cases h1 : zi (lo.xs.getD d 0) < zi (p.xs.getD d 0)
          · have h31 : (l.isN && decide (zi (lo.xs.getD d 0) < zi (p.xs.getD d 0))) = true := by rw [hisn, decide_eq_true h1]; rfl
            have e : L1 = l.within lo.xs hi.xs := by rw [HL1.out, if_pos h1]
            subst e
            rw [h31]
            clear h31 h1 hisn
            go_wp2_with (go_at_call 68; refine (HL.out _ ls _ HNN.out HW1.out (by have := HLEN.out.1; simp only [MT.count] at this; omega)).mono ?_; rintro _ w4 ⟨rfl, h4⟩)
            go_meet
            exact ⟨rfl, h4⟩
          · have h31 : (l.isN && decide (zi (lo.xs.getD d 0) < zi (p.xs.getD d 0))) = false := by rw [hisn, decide_eq_false h1]; rfl
            have e : L1 = [] := by rw [HL1.out, if_neg h1]
            subst e
            rw [h31]
            clear h31 h1 hisn
            go_wp2_with fail
            go_meet
            exact ⟨rfl, by rw [List.append_nil]; exact HW1.out⟩
      case rest =>
        obtain ⟨e8, hw2⟩ := hcut
        subst e8
        obtain ⟨ls1, els1⟩ : ∃ ls1, ls1 = ls ++ L1 := ⟨_, rfl⟩
        rw [← els1] at hw2
        have HW2 := Lib.hid hw2
        have hl1 : ls1.length + 1 + r.count ≤ 2147483647 := by
          have h := HLEN.out.2
          have e := HL1.out
          rw [els1, List.length_append, e]
          split
          · exact h
          · simp; omega
        have HLL := Lib.hid hl1
        have HELS := Lib.hid els1
        clear hw2 els1 hl1 c2
        obtain ⟨c0, -, -, -, -, -, -⟩ := HCells.out wc ls1 HW2.out
        obtain ⟨bi, ebi⟩ : ∃ bi, bi = decide (inBox lo.xs hi.xs p.xs) := ⟨_, rfl⟩
        rw [← ebi] at HCON
        have HBI := Lib.hid ebi
        clear ebi
        go_upto_if 47 with (go_at_call 76; refine (HCON.out _ _ HW2.out).mono ?_; rintro _ w5 ⟨rfl, hm5⟩; have HW5 := Lib.hid (HW2.out.mod0 hm5); clear hm5)
        go_cut [8] from 47 to 59 (fun v wx => Hid (v = .bool false ∧ RW H wB wx (ls1 ++ (if bi = true then [p.xs] else []))))
        case first =>
          cases bi with
          | false =>
            go_wp2_with fail
            go_meet
            exact ⟨rfl, by rw [if_neg (by decide), List.append_nil]; exact HW5.out⟩
          | true =>
            obtain ⟨c0', -, -, -, c4', -, -⟩ := HCells.out w5 ls1 HW5.out
            clear c0
            go_wp2_with fail
            go_region_held3 (fun w' => w'.cell? ⟨g, 0, none⟩ = some (.iface 73 (.slice p.A dims p.c)) ∧ w'.cell? ⟨g, 4, none⟩ = some (.pointer bq)) (first | exact ⟨c0', c4'⟩ | exact ⟨(HCells.out _ _ HW6.out).1, (HCells.out _ _ HW6.out).2.2.2.2.1⟩)
              (first | (go_at_call 48; refine (HOP.out _ ls1 _ (by first | with_reducible exact (HW5.out.drewN _).drew | with_reducible exact HW5.out.drewN _ | with_reducible exact HW5.out.drew) (by have := HLL.out; omega)).mono ?_; rintro _ w6 ⟨rfl, hw6⟩; have HW6 := Lib.hid hw6; clear hw6))
            go_wp2_with fail
            go_meet
            exact ⟨rfl, by rw [if_pos trivial]; exact HW6.out⟩
        case rest =>
          obtain ⟨e8, hw7⟩ := hcut
          subst e8
          obtain ⟨ls2, els2⟩ : ∃ ls2, ls2 = ls1 ++ (if bi = true then [p.xs] else []) := ⟨_, rfl⟩
          rw [← els2] at hw7
          have HW7 := Lib.hid hw7
          have hl2 : ls2.length + r.count ≤ 2147483647 := by
            have h := HLL.out
            rw [els2, List.length_append]
            split <;> simp <;> omega
          have HLL2 := Lib.hid hl2
          have HELS2 := Lib.hid els2
          clear hw7 els2 hl2 c0 HW5
          have hfin : ∀ L2, L2 = (if zi (p.xs.getD d 0) < zi (hi.xs.getD d 0) then r.within lo.xs hi.xs else []) → ls2 ++ L2 = ls ++ (MT.node g p d bx l r).within lo.xs hi.xs := fun L2 e => by
            rw [HELS2.out, HELS.out, HL1.out, e, HBI.out, MT.within]
            simp only [decide_eq_true_eq, List.append_assoc]
          have HFIN := Lib.hid hfin
          clear hfin
          obtain ⟨c0, c1, -, c3, -, -, g1⟩ := HCells.out wc ls2 HW7.out
          go_upto_region 7 with fail
          go_cut [82] from 60 to 81 (fun v wx => Hid (v = .bool (r.isN && decide (zi (p.xs.getD d 0) < zi (hi.xs.getD d 0))) ∧ RW H wB wx ls2))
          case first =>
            by_cases hn : r = .nil
            · subst hn
              obtain rfl := HN.out.2.1 rfl
              go_quiet (fail)
              go_wp2_with fail
              go_meet
              exact ⟨rfl, HW7.out.drewN _⟩
            · obtain ⟨k, rfl⟩ := HN.out.2.2 hn
              have hisn := MT.isN_of hn
              by_cases h1 : zi (p.xs.getD d 0) < zi (hi.xs.getD d 0)
              · rw [decide_eq_true h1] at f2
                have H1 := Lib.hid (decide_eq_true h1)
                clear h1
                go_quiet ((go_at_call 133; exact Calls.quiet_of (HC2.out _ _ (HW7.out.drewN _))))
                go_wp2_with fail
                go_meet
                exact ⟨congrArg Value.bool (by rw [hisn, H1.out]; rfl), HW7.out.drewN _⟩
              · rw [decide_eq_false h1] at f2
                have H1 := Lib.hid (decide_eq_false h1)
                clear h1
                go_quiet ((go_at_call 133; exact Calls.quiet_of (HC2.out _ _ (HW7.out.drewN _))))
                go_wp2_with fail
                go_meet
                exact ⟨congrArg Value.bool (by rw [hisn, H1.out]; rfl), HW7.out.drewN _⟩
          case rest =>
            obtain ⟨e82, hw8⟩ := hcut
            have HW8 := Lib.hid hw8
            subst e82
            clear hw8 c0 c1 c3 g1 f2
            obtain ⟨-, -, -, c3, -, -, -⟩ := HCells.out wc ls2 HW8.out
            by_cases hn : r = .nil
            · subst hn
              have h82 : (MT.nil.isN && decide (zi (p.xs.getD d 0) < zi (hi.xs.getD d 0))) = false := rfl
              rw [h82]
              go_wp2_with fail
              go_ret
              refine ⟨rfl, ?_⟩
              rw [← HFIN.out [] (by split <;> rfl), List.append_nil]
              exact HW8.out
            · obtain ⟨k, rfl⟩ := HN.out.2.2 hn
              have hisn := MT.isN_of hn
              have HNN := Lib.hid hn
              clear hn
              by_cases h1 : zi (p.xs.getD d 0) < zi (hi.xs.getD d 0)
              · have h82 : (r.isN && decide (zi (p.xs.getD d 0) < zi (hi.xs.getD d 0))) = true := by rw [hisn, decide_eq_true h1]; rfl
                rw [h82]
                have HE := Lib.hid (HFIN.out _ (if_pos h1).symm)
                clear h82 h1 hisn
                go_wp2_with (go_at_call 68; refine (HR.out _ ls2 _ HNN.out HW8.out (by have := HLL2.out; omega)).mono ?_; rintro _ w9 ⟨rfl, h9⟩)
                go_ret
                exact ⟨rfl, by rw [← HE.out]; exact h9⟩
              · have h82 : (r.isN && decide (zi (p.xs.getD d 0) < zi (hi.xs.getD d 0))) = false := by rw [hisn, decide_eq_false h1]; rfl
                rw [h82]
                have HE := Lib.hid (HFIN.out _ (if_neg h1).symm)
                clear h82 h1 hisn
                go_wp2_with fail
                go_ret
                exact ⟨rfl, by rw [← HE.out, List.append_nil]; exact HW8.out⟩
end Go.Proofs.Ytmeooadgdagiiaa.W

namespace Go.Proofs.Ytmeooadgdagiiaa.W
open Go.RowKit Lox
set_option linter.unusedVariables false
attribute [local go_sem] run_store_flt run_store_fn
attribute [local go_sem ↓] Go.wp_at_zero Go.wp_at_succ

theorem info_int' : (Try.prog.info? 3).map (fun i => (i.zero, i.size, i.bytes)) = some (some (.int .i64 0), 1, 8) := by kernel_rfl
theorem info_row : (Try.prog.info? 26).map (fun i => (i.zero, i.size, i.bytes)) = some (some (.slice none 0 0), 1, 24) := by kernel_rfl

theorem run_assert (v : Value) (w : World) : (Instr.typeAssert (.iface 73 v) 92 73 false).run Try.prog w = .ok v w := by
  simp [Instr.typeAssert, run_underlying Try.underlying73, go_sem, Result.andThen]

set_option maxHeartbeats 4000000 in
theorem op_at (H : Nat) (wB w : World) (ls : List (List Nat)) (ds : List Int) (stop D : Int) (bq : Option Addr) (A : Option Addr) (m cc : Nat) (xs : List Nat) (h : DW H wB w ls ds) (hst : Blk wB H 3 [.int .i64 stop]) (hs : Sl w A m 1 (flts xs)) (h0 : 0 < m) (hm : m ≤ 1099511627776) (hls : ls.length ≤ 2147483647) (hds : ds.length ≤ 2147483647) :
    Calls Try.prog 44 #[.iface 73 (.slice A m cc), .pointer bq, .int .i64 D, .pointer (some ⟨H + 1, 0, none⟩), .pointer (some ⟨H + 2, 0, none⟩), .pointer (some ⟨H, 0, none⟩)] w fun e w' => e = .returned (.bool ((ls.length : Int) + 1 == stop)) ∧ DW H wB w' (ls ++ [xs]) (ds ++ [D]) := by
  have hta := run_assert
  obtain ⟨i0, hi0, hz0, hz1, hz2⟩ := info_parts info_row
  have HI := Lib.hid (And.intro hi0 (And.intro hz0 (And.intro hz1 hz2)))
  clear hi0 hz0 hz1 hz2
  obtain ⟨i1, hi0, hz0, hz1, hz2⟩ := info_parts info_int'
  have HJ := Lib.hid (And.intro hi0 (And.intro hz0 (And.intro hz1 hz2)))
  clear hi0 hz0 hz1 hz2
  obtain ⟨v1, v2, gs, b1, b2, o1, o2, hp, hne⟩ := h.rows
  have cL := b1.at (i := 0) rfl
  have fL := b1.frozen 0
  have hlow := h.low
  have hB := h.mod.size
  have n1 : v1.ownBlock ≠ some (H + 1) := fun e => by have := (own_ge' o1 e).1; omega
  have hL : H + 1 < w.heap.size := by omega
  have HK := Lib.hid (And.intro h (And.intro b1 (And.intro b2 (And.intro o1 (And.intro o2 (And.intro hp hne))))))
  have HS : Hid (Sl w A m 1 (flts xs) ∧ Blk wB H 3 [.int .i64 stop]) := ⟨hs, hst⟩
  clear h b1 b2 o1 o2 hp hne hs hst
  go_enter Try.func44, Try.ntmps44
  go_wp2_with fail
  go_cut [] from 10 to 15 (fun wx => DW H wB wx (ls ++ [xs]) ds)
  case first =>
    go_region_law
      (first
        | (go_simp; go_at_call 33; (refine (floats_any A m cc xs _ HS.out.1.drew hm h0).mono ?_; rintro _ w1 ⟨A2, c2, rfl, hs2, hm2, hb2⟩; have hw1 : Mod (fun _ => False) w w1 := ((Mod.refl _ _).drew.trans hm2); have hz := hw1.size; have hL1 : H + 1 < w1.heap.size := (by omega); have cL1 : w1.cell? ⟨H + 1, 0, none⟩ = some v1 := (hw1.cell hL (fun h => h)).trans cL))
        | ((refine step_append_lies _ (by rfl) _ _ _ (by rfl) wB.heap.size 26 i0 _ 1 24 Try.underlying22 HI.out.1 HI.out.2.1 HI.out.2.2.1 HI.out.2.2.2 rfl (by omega) v1 ls.length gs (by rfl) ((HK.out.2.2.2.1.kept hw1.grownBy (Decidable.em _)).alloc _) ⟨w1.heap.size, 0, none⟩ 1 1 [.slice A2 m c2] (by rfl) (by rfl) (World.news_of_block (cs := #[.slice A2 m c2]) (t := 26) (fr := (0, 0)) (heap_alloc_new w1 _)) (by simp [Value.oneCell']) (by omega) (by unfold maxLen; omega) (by omega) (by simp; omega) (w1.heap.size + 1) (by simp) ?_; intro gg cap w3 hown3 hgrow hat hlt3; have cL3 : w3.cell? ⟨H + 1, 0, none⟩ = some v1 := (hgrow.cell_far _ (by rw [World.size_alloc]; exact Nat.lt_succ_of_lt hL1) (Ne.symm n1)).trans ((World.cell?_alloc_past _ _ _ hL1).trans cL1); have fz3 : w3.frozen? ⟨H + 1, 0, none⟩ = false := (hgrow.frozen_far _ (by rw [World.size_alloc]; exact Nat.lt_succ_of_lt hL1) (Ne.symm n1)).trans ((World.frozen?_alloc_past _ _ _ hL1).trans ((hw1.frozen hL (fun h => h)).trans fL)))))
    all_goals
      go_wp2_with fail
      go_meet
      exact HK.out.1.push1 HK.out.2.1 HK.out.2.2.1 HK.out.2.2.2.1 HK.out.2.2.2.2.1 HK.out.2.2.2.2.2.1 HK.out.2.2.2.2.2.2 hw1 hs2 (fun b o e => ⟨hb2 b o e, hs2.far (by omega) h0 b o e⟩) hm hown3 hgrow hat
  case rest =>
    clear cL fL
    obtain ⟨u1, u2, gs1, b1, b2, o1, o2, hp, hne⟩ := hcut.rows
    have hl1 : 0 < (ls ++ [xs]).length := by simp
    obtain ⟨bb, ccap, rfl, hbb, hbl⟩ := o1.form hl1
    obtain ⟨q, hq⟩ : ∃ q, q = (ls ++ [xs]).length := ⟨_, rfl⟩
    have hq2 : q = ls.length + 1 := by rw [hq]; simp
    have cL : wc.cell? ⟨H + 1, 0, none⟩ = some (.slice (some ⟨bb, 0, none⟩) q ccap) := by rw [hq]; exact b1.at (i := 0) rfl
    have cD := b2.at (i := 0) rfl
    have fD := b2.frozen 0
    have hB2 := hcut.mod.size
    have cS : wc.cell? ⟨H, 0, none⟩ = some (.int .i64 stop) := (hcut.mod.cell (by show H < _; omega) (by simp)).trans (HS.out.2.at (i := 0) rfl)
    have n2 : u2.ownBlock ≠ some (H + 2) := fun e => by have := (own_ge' o2 e).1; omega
    have n21 : u2.ownBlock ≠ some (H + 1) := fun e => by have := (own_ge' o2 e).1; omega
    have n20 : u2.ownBlock ≠ some H := fun e => by have := (own_ge' o2 e).1; omega
    have hL2 : H + 2 < wc.heap.size := by omega
    have hL1 : H + 1 < wc.heap.size := by omega
    have hL0 : H < wc.heap.size := by omega
    have HK2 := Lib.hid (And.intro hcut (And.intro b1 (And.intro b2 (And.intro o1 (And.intro o2 (And.intro hp hne))))))
    have HO := Lib.hid o2
    have HQ := Lib.hid hq
    clear hcut b1 b2 o1 o2 hp hne hq hl1
    go_wp2_with (at_builtin; refine wpList_append_lies _ rfl _ _ _ rfl wB.heap.size 3 i1 (.int .i64 0) 1 8 Try.underlying23 HJ.out.1 HJ.out.2.1 HJ.out.2.2.1 HJ.out.2.2.2 rfl (by decide) u2 ds.length (ints ds) rfl (HO.out.alloc _) ⟨wc.heap.size, 0, none⟩ 1 1 [.int .i64 D] rfl rfl (World.news_of_block (cs := #[.int .i64 D]) (t := 3) (fr := (0, 0)) (heap_alloc_new wc _)) (by simp [Value.oneCell']) (by omega) (by unfold maxLen; omega) (by omega) (by simp; omega) (wc.heap.size + 1) (by simp) ?_; intro gg cap w3 hown3 hgrow hat hlt3; have x0 : w3.cell? ⟨H, 0, none⟩ = some (.int .i64 stop) := (hgrow.cell_far _ (by rw [World.size_alloc]; exact Nat.lt_succ_of_lt hL0) (Ne.symm n20)).trans ((World.cell?_alloc_past _ _ _ hL0).trans cS); have x1 : w3.cell? ⟨H + 1, 0, none⟩ = some (.slice (some ⟨bb, 0, none⟩) q ccap) := (hgrow.cell_far _ (by rw [World.size_alloc]; exact Nat.lt_succ_of_lt hL1) (Ne.symm n21)).trans ((World.cell?_alloc_past _ _ _ hL1).trans cL); have x2 : w3.cell? ⟨H + 2, 0, none⟩ = some u2 := (hgrow.cell_far _ (by rw [World.size_alloc]; exact Nat.lt_succ_of_lt hL2) (Ne.symm n2)).trans ((World.cell?_alloc_past _ _ _ hL2).trans cD); have x3 : w3.frozen? ⟨H + 2, 0, none⟩ = false := (hgrow.frozen_far _ (by rw [World.size_alloc]; exact Nat.lt_succ_of_lt hL2) (Ne.symm n2)).trans ((World.frozen?_alloc_past _ _ _ hL2).trans fD))
    go_ret
    have hq' := HQ.out
    refine ⟨rfl, ?_⟩
    exact HK2.out.1.push2 HK2.out.2.1 HK2.out.2.2.1 HK2.out.2.2.2.1 HK2.out.2.2.2.2.1 HK2.out.2.2.2.2.2.1 HK2.out.2.2.2.2.2.2 hown3 hgrow hat
end Go.Proofs.Ytmeooadgdagiiaa.W

namespace Go.Proofs.Ytmeooadgdagiiaa.W
open Go.RowKit Lox
set_option linter.unusedVariables false
attribute [local go_sem] run_store_flt run_store_fn
attribute [local go_sem ↓] Go.wp_at_zero Go.wp_at_succ

/-- What a list comes to that is stopped at the stop-th (never, if stop is below 1), and whether it is. -/
def cut (stop : Int) (l : List (List Nat × Int)) : List (List Nat × Int) := if 0 < stop ∧ stop ≤ l.length then l.take stop.toNat else l
def stopped (stop : Int) (l : List (List Nat × Int)) : Bool := decide (0 < stop ∧ stop ≤ l.length)

theorem cut_append_stopped {stop : Int} {a b : List (List Nat × Int)} (h : stopped stop a = true) : cut stop (a ++ b) = cut stop a ∧ stopped stop (a ++ b) = true := by
  unfold stopped cut at *
  have h := of_decide_eq_true h
  rw [if_pos h, if_pos (by rw [List.length_append]; omega)]
  refine ⟨?_, decide_eq_true (by rw [List.length_append]; omega)⟩
  rw [List.take_append_of_le_length (by omega)]

theorem cut_of_not {stop : Int} {a : List (List Nat × Int)} (h : stopped stop a = false) : cut stop a = a := by
  unfold stopped cut at *
  rw [if_neg (of_decide_eq_false h)]

/-- The operation has been told these. -/
def Heard (H : Nat) (wB w : World) (l : List (List Nat × Int)) : Prop := DW H wB w (l.map (·.1)) (l.map (·.2))

def DoTold (H : Nat) (wB : World) (stop : Int) (l : List (List Nat × Int)) (e : Ending) (w' : World) : Prop :=
  e = .returned (.bool (stopped stop l)) ∧ Heard H wB w' (cut stop l)

theorem Heard.blk {H : Nat} {wB w : World} {l : List (List Nat × Int)} (h : Heard H wB w l) {b : Nat} {T : TypeId} {xs : List Value} (hb : Blk wB b T xs) (hge : H + 3 ≤ b) : Blk w b T xs :=
  hb.mod h.mod (by omega)

theorem Heard.sl {H Bt : Nat} {wB w : World} {l : List (List Nat × Int)} (h : Heard H wB w l) {A : Option Addr} {m : Nat} {xs : List Value} (hs : Sl wB A m 1 xs) (hA : ∀ b o, A = some ⟨b, o, none⟩ → Bt ≤ b) (hge : H + 3 ≤ Bt) : Sl w A m 1 xs :=
  sl_keep2 hs fun b o e hb => h.mod.block b hb (by have := hA b o e; omega)

theorem BT.In.some {B : Nat} {w : World} {t : BT} {v : Value} (h : t.In B w v) (hn : t ≠ .nil) : ∃ g, v = .pointer (some ⟨g, 0, none⟩) := by
  cases t with
  | nil => exact absurd rfl hn
  | node g A m c xs r l rt => exact ⟨_, h.1⟩

theorem Heard.drew {H : Nat} {wB w : World} {l : List (List Nat × Int)} (h : Heard H wB w l) : Heard H wB w.drew l := ⟨h.mod.drew, h.low, h.rows⟩

theorem stopped_nil (stop : Int) : stopped stop [] = false := by
  unfold stopped
  refine decide_eq_false ?_
  rintro ⟨h1, h2⟩
  simp at h2
  omega

theorem stopped_one {stop : Int} {l : List (List Nat × Int)} (h : stopped stop l = false) (x : List Nat × Int) : stopped stop (l ++ [x]) = ((l.length : Int) + 1 == stop) := by
  unfold stopped at *
  have h := of_decide_eq_false h
  rw [List.length_append]
  by_cases he : (l.length : Int) + 1 = stop
  · rw [decide_eq_true (by simp only [List.length_singleton]; omega)]; simp [he]
  · rw [decide_eq_false (by simp only [List.length_singleton]; omega)]; simp [he]

theorem cut_one {stop : Int} {l : List (List Nat × Int)} (h : stopped stop l = false) (x : List Nat × Int) : cut stop (l ++ [x]) = l ++ [x] := by
  unfold stopped at h
  have h := of_decide_eq_false h
  unfold cut
  split
  · rename_i h2
    rw [List.length_append] at h2
    simp only [List.length_singleton] at h2
    exact List.take_of_length_le (by rw [List.length_append]; simp only [List.length_singleton]; omega)
  · rfl

theorem heard_one {H : Nat} {wB w : World} {l : List (List Nat × Int)} {xs : List Nat} {D : Int} (h : DW H wB w (l.map (·.1) ++ [xs]) (l.map (·.2) ++ [D])) : Heard H wB w (l ++ [(xs, D)]) := by
  unfold Heard
  rw [List.map_append, List.map_append]
  exact h

set_option maxHeartbeats 4000000 in
theorem do_at (H Bt : Nat) (wB : World) (stop : Int) (hst : Blk wB H 3 [.int .i64 stop]) (hBt : H + 3 ≤ Bt) (t : BT) :
    ∀ (d : Nat) (D : Int) (v : Value) (w : World) (l : List (List Nat × Int)), t ≠ .nil → D = d → t.In Bt wB v → Heard H wB w l → stopped stop l = false → l.length + (t.visit d).length ≤ 2147483647 → d + (t.visit d).length ≤ 2147483647 →
      Calls Try.prog 67 #[v, .func (Fn.func 44) #[] #[.pointer (some ⟨H + 1, 0, none⟩), .pointer (some ⟨H + 2, 0, none⟩), .pointer (some ⟨H, 0, none⟩)], .int .i64 D] w (DoTold H wB stop (l ++ t.visit d)) := by
  induction t with
  | nil => intro d D v w l h; exact absurd rfl h
  | node g A m c xs r tl tr ihl ihr =>
    intro d D v w l _ hD hv hw hs hlen hdep
    subst hD
    obtain ⟨rfl, hg, hm, hS, hA, lv, rv, bq, hb, hl, hr⟩ := hv
    obtain ⟨ql, rfl⟩ := hl.ptr
    obtain ⟨qr, rfl⟩ := hr.ptr
    have IHL := Lib.hid ihl
    have IHR := Lib.hid ihr
    clear ihl ihr
    have hHg : H + 3 ≤ g := by omega
    have hN := hw.blk hb hHg
    have c0 := hN.at (i := 0) rfl
    have c2 := hN.at (i := 2) rfl
    have HW : Hid (Heard H wB w l ∧ stopped stop l = false) := ⟨hw, hs⟩
    have HN : Hid (Blk wB g 122 [.iface 73 (.slice A m c), .int .i64 r, .pointer ql, .pointer qr, .pointer bq] ∧ Sl wB A m 1 (flts xs) ∧ (∀ b o, A = some ⟨b, o, none⟩ → Bt ≤ b) ∧ Blk wB H 3 [.int .i64 stop]) := ⟨hb, hS, hA, hst⟩
    simp only [BT.visit, List.length_append, List.length_cons] at hlen hdep
    have hd : d ≤ 2147483647 := by omega
    have HVL := Lib.hid hl
    have HVR := Lib.hid hr
    have HLN : Hid (l.length + ((tl.visit (d + 1)).length + ((tr.visit (d + 1)).length + 1)) ≤ 2147483647 ∧ d + ((tl.visit (d + 1)).length + ((tr.visit (d + 1)).length + 1)) ≤ 2147483647) := ⟨hlen, hdep⟩
    clear hN hw hs hb hS hA hl hr hlen hdep hst
    go_enter Try.func67, Try.ntmps67
    go_upto_if 11 with fail
    go_cut [6] from 11 to 20 (fun b wx => b = .bool false ∧ Heard H wB wx (l ++ tl.visit (d + 1)) ∧ stopped stop (l ++ tl.visit (d + 1)) = false)
    case first =>
      by_cases hnil : tl = .nil
      · subst hnil
        obtain rfl : ql = none := by have := HVL.out; simpa [BT.In] using this
        go_wp2_with fail
        go_meet
        exact ⟨rfl, by simpa [BT.visit] using HW.out.1, by simpa [BT.visit] using HW.out.2⟩
      · obtain ⟨g1, e1⟩ := HVL.out.some hnil
        cases e1
        cases hsb : stopped stop (l ++ tl.visit (d + 1)) with
        | true =>
          go_wp2_with (go_at_call 67; refine (IHL.out (d + 1) _ _ w l hnil (by omega) HVL.out HW.out.1 HW.out.2 (by have := HLN.out; omega) (by have := HLN.out; omega)).mono ?_; rintro _ w1 ⟨e1, hh⟩; rw [hsb] at e1; subst e1)
          go_ret
          have hc := cut_append_stopped (b := (xs, (d : Int)) :: tr.visit (d + 1)) hsb
          exact ⟨by rw [BT.visit, ← List.append_assoc, hc.2]; rfl, by rw [BT.visit, ← List.append_assoc, hc.1]; exact hh⟩
        | false =>
          go_wp2_with (go_at_call 67; refine (IHL.out (d + 1) _ _ w l hnil (by omega) HVL.out HW.out.1 HW.out.2 (by have := HLN.out; omega) (by have := HLN.out; omega)).mono ?_; rintro _ w1 ⟨e1, hh⟩; rw [hsb] at e1; subst e1)
          go_meet
          exact ⟨rfl, by rw [cut_of_not hsb] at hh; exact hh, hsb⟩
    case rest =>
      obtain ⟨rfl, hh, hsb⟩ := hcut
      obtain ⟨l1, el1⟩ : ∃ l1, l1 = l ++ tl.visit (d + 1) := ⟨_, rfl⟩
      rw [← el1] at hh hsb
      have hlist : l ++ (BT.node g A m c xs r tl tr).visit d = (l1 ++ [(xs, (d : Int))]) ++ tr.visit (d + 1) := by
        rw [BT.visit, el1]; simp
      have hl1 : l1.length + ((tr.visit (d + 1)).length + 1) ≤ 2147483647 := by rw [el1, List.length_append]; have := HLN.out; omega
      have d0 := (hh.blk HN.out.1 hHg).at (i := 0) rfl
      have d4 := (hh.blk HN.out.1 hHg).at (i := 4) rfl
      have HLI := Lib.hid hlist
      have HH : Hid (Heard H wB wc l1 ∧ stopped stop l1 = false) := ⟨hh, hsb⟩
      have HL1 := Lib.hid hl1
      clear hh el1 hlist c0 c2 hl1
      cases hs2 : stopped stop (l1 ++ [(xs, (d : Int))]) with
      | true =>
        go_wp2_with fail
        go_region_held3 (fun w' => w'.cell? ⟨g, 0, none⟩ = some (.iface 73 (.slice A m c)) ∧ w'.cell? ⟨g, 4, none⟩ = some (.pointer bq)) (first | go_keep | exact ⟨(hH2.blk HN.out.1 hHg).at (i := 0) rfl, (hH2.blk HN.out.1 hHg).at (i := 4) rfl⟩) ((go_at_call 44; refine (op_at H wB _ _ _ stop d bq A m c xs HH.out.1.drew HN.out.2.2.2 ((HH.out.1.sl HN.out.2.1 HN.out.2.2.1 hBt).drew) hm.1 hm.2 (by rw [List.length_map]; have := HL1.out; omega) (by rw [List.length_map]; have := HL1.out; omega)).mono ?_; rintro _ w2 ⟨e2, hD2⟩; rw [List.length_map, ← stopped_one HH.out.2 (xs, (d : Int)), hs2] at e2; subst e2; have hH2 := heard_one hD2))
        go_wp2_with fail
        go_ret
        have hc := cut_append_stopped (b := tr.visit (d + 1)) hs2
        exact ⟨by rw [HLI.out, hc.2]; rfl, by rw [HLI.out, hc.1, cut_one HH.out.2]; exact hH2⟩
      | false =>
        by_cases hnil : tr = .nil
        · subst hnil
          obtain rfl : qr = none := by have := HVR.out; simpa [BT.In] using this
          go_wp2_with fail
          go_region_held3 (fun w' => w'.cell? ⟨g, 0, none⟩ = some (.iface 73 (.slice A m c)) ∧ w'.cell? ⟨g, 4, none⟩ = some (.pointer bq)) (first | go_keep | exact ⟨(hH2.blk HN.out.1 hHg).at (i := 0) rfl, (hH2.blk HN.out.1 hHg).at (i := 4) rfl⟩) ((go_at_call 44; refine (op_at H wB _ _ _ stop d bq A m c xs HH.out.1.drew HN.out.2.2.2 ((HH.out.1.sl HN.out.2.1 HN.out.2.2.1 hBt).drew) hm.1 hm.2 (by rw [List.length_map]; have := HL1.out; omega) (by rw [List.length_map]; have := HL1.out; omega)).mono ?_; rintro _ w2 ⟨e2, hD2⟩; rw [List.length_map, ← stopped_one HH.out.2 (xs, (d : Int)), hs2] at e2; subst e2; have hH2 := heard_one hD2; have d3 := (hH2.blk HN.out.1 hHg).at (i := 3) rfl))
          go_wp2_with fail
          go_ret
          have e : l ++ (BT.node g A m c xs r tl .nil).visit d = l1 ++ [(xs, (d : Int))] := by rw [HLI.out, BT.visit]; simp
          exact ⟨by rw [e, hs2]; rfl, by rw [e, cut_of_not hs2]; exact hH2⟩
        · obtain ⟨g1, e1⟩ := HVR.out.some hnil
          cases e1
          go_wp2_with fail
          go_region_held3 (fun w' => w'.cell? ⟨g, 0, none⟩ = some (.iface 73 (.slice A m c)) ∧ w'.cell? ⟨g, 4, none⟩ = some (.pointer bq)) (first | go_keep | exact ⟨(hH2.blk HN.out.1 hHg).at (i := 0) rfl, (hH2.blk HN.out.1 hHg).at (i := 4) rfl⟩) ((go_at_call 44; refine (op_at H wB _ _ _ stop d bq A m c xs HH.out.1.drew HN.out.2.2.2 ((HH.out.1.sl HN.out.2.1 HN.out.2.2.1 hBt).drew) hm.1 hm.2 (by rw [List.length_map]; have := HL1.out; omega) (by rw [List.length_map]; have := HL1.out; omega)).mono ?_; rintro _ w2 ⟨e2, hD2⟩; rw [List.length_map, ← stopped_one HH.out.2 (xs, (d : Int)), hs2] at e2; subst e2; have hH2 := heard_one hD2; have d3 := (hH2.blk HN.out.1 hHg).at (i := 3) rfl))
          go_wp2_with (go_at_call 67; refine (IHR.out (d + 1) _ _ w2 (l1 ++ [(xs, (d : Int))]) hnil (by omega) HVR.out hH2 hs2 (by have := HL1.out; rw [List.length_append, List.length_singleton]; omega) (by have := HLN.out; omega)).mono ?_; rintro _ w4 ⟨rfl, hD4⟩)
          go_ret
          exact ⟨by rw [HLI.out, List.append_assoc]; rfl, by rw [HLI.out]; exact hD4⟩

set_option maxHeartbeats 1000000 in
theorem tree_do (H Bt : Nat) (wB w : World) (stop : Int) (hst : Blk wB H 3 [.int .i64 stop]) (hBt : H + 3 ≤ Bt) (t : BT) (v : Value) (tb : Nat) (n : Int) (htb : Blk w tb 79 [v, .int .i64 n]) (hn : t ≠ .nil) (hv : t.In Bt wB v) (hw : Heard H wB w []) (hlen : (t.visit 0).length ≤ 2147483647) :
    Calls Try.prog 43 #[.pointer (some ⟨tb, 0, none⟩), .func (Fn.func 44) #[] #[.pointer (some ⟨H + 1, 0, none⟩), .pointer (some ⟨H + 2, 0, none⟩), .pointer (some ⟨H, 0, none⟩)]] w (DoTold H wB stop (t.visit 0)) := by
  have hv' := hv
  obtain ⟨g, rfl⟩ := hv.some hn
  have c0 := htb.at (i := 0) rfl
  have HV := Lib.hid hv'
  clear hv hv'
  go_enter Try.func43, Try.ntmps43
  go_wp2_with (go_at_call 67; refine (do_at H Bt wB stop hst hBt t 0 0 _ w [] hn rfl HV.out hw (stopped_nil stop) (by simpa using hlen) (by simpa using hlen)).mono ?_; rintro _ w4 ⟨rfl, hD4⟩)
  go_ret
  exact ⟨rfl, hD4⟩
end Go.Proofs.Ytmeooadgdagiiaa.W
