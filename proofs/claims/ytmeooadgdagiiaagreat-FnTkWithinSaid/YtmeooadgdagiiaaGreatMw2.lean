/- Steps of a proof, one behind another: The walk of the library's up over a keeper's heap. The walks of a keeper's Len, Less and Swap. The walk of a keeper's Swap. The walk of the library's up over a keeper's heap. The walk of the library's down over a keeper's heap. The walk of a keeper's Push, where there is room. Slices of rows of numbers, each row in a block of its own. The walks of Push over a keeper within a distance, whose array may grow. The walks of the library's Push and Fix over a keeper, and of its Keep. What a keeper of the n least holds, in plain Lean. The walk of a k-d tree's keeper's Keep. The walks of the library's Push over a keeper within a distance, and of its Keep. What a keeper within a distance holds, in plain Lean. sort.Sort over ANY receiver (whatever its rows are): what its functions ask of it; the walk of sort.insertionSort. The literal 279 is this seat's number of types and 100. Conditions: as each theorem says. -/
import Derived.Test.YtmeooadgdagiiaaGreatMw1
import Derived.Test.YtmeooadgdagiiaaGreatRows
import Derived.Deep.QuietTactic
import Derived.BigQuiet
import Derived.Deep.RegionLaw
import Derived.Deep.AppendLies
import Derived.Deep.DrawnRows
import Derived.Outline
import Derived.WalkKit
import Derived.Sort.WalkA
import Derived.Sort.AssemblyPlain
import Derived.Deep.LoopGhost
import Derived.Shelf.Abstract

namespace Go.Proofs.YtmeooadgdagiiaaGreat.K.D
open Go.RowKit Lox
set_option linter.unusedVariables false
variable {S : Nat}
attribute [local go_sem] run_store_flt run_store_fn

theorem kmeth_less (a : Addr) (w : World) : (method 279 58 (.pointer (some a)) "Less").run Tryz.prog w = .ok (105, .pointer (some a)) w := by kernel_rfl
theorem kmeth_swap (a : Addr) (w : World) : (method 279 58 (.pointer (some a)) "Swap").run Tryz.prog w = .ok (108, .pointer (some a)) w := by kernel_rfl

theorem upF_step {els : List El} {m : Nat} (h : lessE (at' els (m + 1)) (at' els (m / 2)) = true) : upF els (m + 1) = upF (swapE els (m / 2) (m + 1)) (m / 2) := by
  rw [upF, dif_neg (by omega)]
  have : par (m + 1) = m / 2 := rfl
  rw [this, if_pos h]

theorem upF_stop {els : List El} {m : Nat} (h : lessE (at' els (m + 1)) (at' els (m / 2)) = false) : upF els (m + 1) = els := by
  rw [upF, dif_neg (by omega)]
  have : par (m + 1) = m / 2 := rfl
  rw [this, if_neg (by rw [h]; exact Bool.false_ne_true)]

theorem upF_zero (els : List El) : upF els 0 = els := by rw [upF, dif_pos rfl]

set_option maxRecDepth 100000 in
set_option maxHeartbeats 4000000 in
theorem kup_at (kb hb len cap : Nat) (hl : len ≤ 1099511627776) (w0 : World) (j : Nat) (J : Int) (els : List El) (hJ : J = j) (h : DKS S w0 kb hb len cap els) (hj : j < len) :
    Calls Tryz.prog 110 #[.iface 58 (.pointer (some ⟨kb, 0, none⟩)), .int .i64 J] w0 fun e w' => e = .returned (.tuple #[]) ∧ DKS S w' kb hb len cap (upF els j) ∧ Mod (fun k => k = hb) w0 w' := by
  subst hJ
  have HK := Lib.hid h
  clear h
  have m1 := kmeth_less
  have m2 := kmeth_swap
  go_enter Tryz.func110, Tryz.ntmps110
  go_wp2_with fail
  go_loopw [1, 4] (fun j' _ w' => ∃ (i : Nat) (els' : List El), i < len ∧ j' = .int .i64 i ∧ Hid (DKS S w' kb hb len cap els' ∧ Mod (fun k => k = hb) w0 w' ∧ upF els' i = upF els j)) (fun j' _ _ => (intOf j').toNat)
  case atStart => exact ⟨j, els, hj, rfl, HK.out, Mod.refl _ _, rfl⟩
  case round =>
    obtain ⟨i, els', hi, rfl, HR⟩ := hrel
    by_cases h0 : i = 0
    · subst h0
      go_wp2_with fail
      refine bodyPost_end (by simp [results, Tryz.results110, go_sem]) rfl ⟨rfl, ?_, HR.out.2.1⟩
      rw [← HR.out.2.2, upF_zero]
      exact HR.out.1
    · obtain ⟨m, rfl⟩ : ∃ m, i = m + 1 := ⟨i - 1, by omega⟩
      have hm0 : (0 : Int) ≤ m := by omega
      have hm1 : (m : Int) ≤ 1099511627776 := by omega
      have hb1 : ((m : Int) / 2 == (m : Int) + 1) = false := by
        have : (m : Int) / 2 ≠ (m : Int) + 1 := by omega
        simpa using this
      clear h0
      obtain ⟨g, hg⟩ : ∃ g, g = lessE (at' els' (m + 1)) (at' els' (m / 2)) := ⟨_, rfl⟩
      have HG := Lib.hid hg
      clear hg
      cases g with
      | false =>
        go_wp2_with (go_at_call 105; refine (kless_at _ kb hb len cap els' (m + 1) (m / 2) ((m : Int) + 1) ((m : Int) / 2) (by omega) (by omega) HR.out.1 hi (by omega) hl).mono ?_; rw [← HG.out]; rintro _ _ ⟨rfl, n1, rfl⟩)
        refine bodyPost_end (by simp [results, Tryz.results110, go_sem]) rfl ⟨rfl, ?_, HR.out.2.1.trans (mod_drewN _ _ n1)⟩
        rw [← HR.out.2.2, upF_stop HG.out.symm]
        exact HR.out.1
      | true =>
        go_wp2_with (first | (go_at_call 105; refine (kless_at _ kb hb len cap els' (m + 1) (m / 2) ((m : Int) + 1) ((m : Int) / 2) (by omega) (by omega) HR.out.1 hi (by omega) hl).mono ?_; rw [← HG.out]; rintro _ _ ⟨rfl, n1, rfl⟩) | (go_at_call 108; refine (kswap_at _ kb hb len cap els' (m / 2) (m + 1) ((m : Int) / 2) ((m : Int) + 1) (by omega) (by omega) (HR.out.1.drewN n1) (by omega) hi (by omega) hl).mono ?_; rintro _ w2 ⟨rfl, hk2, hm2⟩; have HK2 := Lib.hid (And.intro hk2 hm2); clear hk2 hm2))
        go_roundw
        case rel => exact ⟨m / 2, swapE els' (m / 2) (m + 1), by omega, by go_num, HK2.out.1, (HR.out.2.1.trans (mod_drewN _ _ n1)).trans HK2.out.2, by rw [← upF_step HG.out.symm]; exact HR.out.2.2⟩
        case measure => simp [intOf]; omega
end Go.Proofs.YtmeooadgdagiiaaGreat.K.D

namespace Go.Proofs.YtmeooadgdagiiaaGreat.K
open Go.RowKit Lox
set_option linter.unusedVariables false
attribute [local go_sem] run_store_flt run_store_fn undef

end Go.Proofs.YtmeooadgdagiiaaGreat.K

namespace Go.Proofs.YtmeooadgdagiiaaGreat.K
open Go.RowKit Lox
set_option linter.unusedVariables false
attribute [local go_sem] run_store_flt run_store_fn undef

theorem elAt_one {PT : TypeId} {v : Value} {b : Nat} {x : El} (h : ElAt PT v b x) : v.oneCell' = true := by
  cases x with
  | none => rw [h.1]; rfl
  | some d => obtain ⟨_, _, rfl⟩ := h; rfl

end Go.Proofs.YtmeooadgdagiiaaGreat.K

namespace Go.Proofs.YtmeooadgdagiiaaGreat.K
open Go.RowKit Lox
set_option linter.unusedVariables false
attribute [local go_sem] run_store_flt run_store_fn

theorem upF_step {els : List El} {m : Nat} (h : lessE (at' els (m + 1)) (at' els (m / 2)) = true) : upF els (m + 1) = upF (swapE els (m / 2) (m + 1)) (m / 2) := by
  rw [upF, dif_neg (by omega)]
  have : par (m + 1) = m / 2 := rfl
  rw [this, if_pos h]

theorem upF_stop {els : List El} {m : Nat} (h : lessE (at' els (m + 1)) (at' els (m / 2)) = false) : upF els (m + 1) = els := by
  rw [upF, dif_neg (by omega)]
  have : par (m + 1) = m / 2 := rfl
  rw [this, if_neg (by rw [h]; exact Bool.false_ne_true)]

theorem upF_zero (els : List El) : upF els 0 = els := by rw [upF, dif_pos rfl]

end Go.Proofs.YtmeooadgdagiiaaGreat.K

namespace Go.Proofs.YtmeooadgdagiiaaGreat.K
open Go.RowKit Lox
set_option linter.unusedVariables false
attribute [local go_sem] run_store_flt run_store_fn

theorem downF_stop {els : List El} {i n : Nat} (h : n ≤ 2 * i + 1) : downF els i n = (els, i) := by rw [downF_eq, if_pos h]
theorem downF_halt {els : List El} {i n K : Nat} (h : ¬ n ≤ 2 * i + 1) (hK : kid els i n = K) (hl : lessE (at' els K) (at' els i) = false) : downF els i n = (els, i) := by
  rw [downF_eq, if_neg h, hK, if_neg (by rw [hl]; exact Bool.false_ne_true)]
theorem downF_step {els : List El} {i n K : Nat} (h : ¬ n ≤ 2 * i + 1) (hK : kid els i n = K) (hl : lessE (at' els K) (at' els i) = true) : downF els i n = downF (swapE els i K) K n := by
  rw [downF_eq, if_neg h, hK, if_pos hl]
theorem kid_one {els : List El} {i n : Nat} (h : ¬ 2 * i + 2 < n) : kid els i n = 2 * i + 1 := if_neg (fun hh => h hh.1)
theorem kid_left {els : List El} {i n : Nat} (h : lessE (at' els (2 * i + 2)) (at' els (2 * i + 1)) = false) : kid els i n = 2 * i + 1 := if_neg (fun hh => by rw [h] at hh; exact Bool.false_ne_true hh.2)
theorem kid_right {els : List El} {i n : Nat} (h0 : 2 * i + 2 < n) (h : lessE (at' els (2 * i + 2)) (at' els (2 * i + 1)) = true) : kid els i n = 2 * i + 2 := if_pos ⟨h0, h⟩

end Go.Proofs.YtmeooadgdagiiaaGreat.K

namespace Go.Proofs.YtmeooadgdagiiaaGreat.K
open Go.RowKit Lox
set_option linter.unusedVariables false
attribute [local go_sem] run_store_flt run_store_fn
attribute [local go_sem ↓] Go.wp_at_zero Go.wp_at_succ

theorem kinfo_cd : (Tryz.prog.info? 95).map (fun i => (i.zero, i.size, i.bytes)) = some (some (.agg #[.nilIface, .float .f64 0]), 2, 24) := by kernel_rfl

theorem run_assert_cd (v : Value) (w : World) : (Instr.typeAssert (.iface 95 v) 20 95 false).run Tryz.prog w = .ok v w := by
  simp [Instr.typeAssert, run_underlying Tryz.underlying95, go_sem, Result.andThen]

theorem setCells_two (w : World) (b o : Nat) (x y : Value) : w.setCells b o [x, y] = (w.setCell ⟨b, o, none⟩ x).setCell ⟨b, o + 1, none⟩ y := rfl

theorem mod_three {S : Nat → Prop} {hb kb : Nat} (w : World) (h1 : S hb) (h2 : S kb) (a b c : Nat) (x y z : Value) : Mod S w (((w.setCell ⟨hb, a, none⟩ x).setCell ⟨hb, b, none⟩ y).setCell ⟨kb, c, none⟩ z) := by
  have e1 : Mod S w (w.setCell ⟨hb, a, none⟩ x) := (Mod.refl S w).set (p := ⟨hb, a, none⟩) (.inl h1) x
  have e2 : Mod S w ((w.setCell ⟨hb, a, none⟩ x).setCell ⟨hb, b, none⟩ y) := e1.set (p := ⟨hb, b, none⟩) (.inl h1) y
  exact e2.set (p := ⟨kb, c, none⟩) (.inl h2) z

end Go.Proofs.YtmeooadgdagiiaaGreat.K

namespace Lox
open Go Go.RowKit

theorem Mod.grownBy {w w' : World} (h : Mod (fun _ => False) w w') : w.grownBy w' none :=
  ⟨h.os, h.tape, h.output, h.size, fun k hk _ => h.block k hk (fun h => h)⟩

theorem owns_ne {w : World} {B : Nat} {e T : TypeId} {size : Nat} {v : Value} {n : Nat} {xs ys : List Value} {g : Nat}
    (h : w.ownsRow B e size v n xs) (hb : Blk w g T ys) (hne : T ≠ e) : v.ownBlock ≠ some g := by
  intro hv
  rcases h.2 with ⟨rfl, _⟩ | ⟨g', cap, cur, rfl, _, hg, _⟩
  · simp [Value.ownBlock] at hv
  · simp only [Value.ownBlock, Option.some.injEq] at hv
    subst hv
    unfold Blk at hb
    rw [hb] at hg
    simp at hg
    exact hne hg.2

theorem owns_keep {w w' : World} {B : Nat} {e : TypeId} {size : Nat} {v : Value} {n : Nat} {xs : List Value}
    (h : w.ownsRow B e size v n xs) (hk : ∀ k, B ≤ k → k < w.heap.size → w'.heap[k]? = w.heap[k]?) : w'.ownsRow B e size v n xs := by
  refine ⟨h.1, ?_⟩
  rcases h.2 with hn | ⟨g, cap, cur, rfl, hb, hgg, rest⟩
  · exact .inl hn
  · exact .inr ⟨g, cap, cur, rfl, hb, by rw [hk g hb (Array.getElem?_eq_some_iff.1 hgg).1]; exact hgg, rest⟩

theorem Blk.keep {w w' : World} {B b : Nat} {T : TypeId} {xs : List Value} (h : Blk w b T xs) (hB : B ≤ b)
    (hk : ∀ k, B ≤ k → k < w.heap.size → w'.heap[k]? = w.heap[k]?) : Blk w' b T xs := by
  have := hk b hB h.lt
  unfold Blk at *
  rw [this, h]

/-- Each of these blocks is a row of numbers of its own. -/
def Each (T : TypeId) (B : Nat) (w : World) (gs : List Nat) (ps : List (List Int)) : Prop :=
  gs.length = ps.length ∧ ∀ (i g : Nat) (p : List Int), (gs[i]? : Option Nat) = some g → (ps[i]? : Option (List Int)) = some p → B ≤ g ∧ Blk w g T (ints p)

theorem Each.nil (T : TypeId) (B : Nat) (w : World) : Each T B w [] [] := ⟨rfl, fun i g p h => by simp at h⟩

theorem Each.keep {T : TypeId} {B : Nat} {w w' : World} {gs : List Nat} {ps : List (List Int)} (h : Each T B w gs ps)
    (hk : ∀ k, B ≤ k → k < w.heap.size → w'.heap[k]? = w.heap[k]?) : Each T B w' gs ps :=
  ⟨h.1, fun i g p hg hp => ⟨(h.2 i g p hg hp).1, (h.2 i g p hg hp).2.keep (h.2 i g p hg hp).1 hk⟩⟩

theorem Each.grown {T : TypeId} {B : Nat} {w w' : World} {gs : List Nat} {ps : List (List Int)} {row : Option Nat} (h : Each T B w gs ps)
    (hg : w.grownBy w' row) (hne : ∀ g ys, Blk w g T ys → row ≠ some g) : Each T B w' gs ps :=
  ⟨h.1, fun i g p hg' hp => ⟨(h.2 i g p hg' hp).1, (h.2 i g p hg' hp).2.grown hg (fun e => hne g _ (h.2 i g p hg' hp).2 e.symm)⟩⟩

theorem Each.snoc {T : TypeId} {B : Nat} {w : World} {gs : List Nat} {ps : List (List Int)} {g : Nat} {p : List Int} (h : Each T B w gs ps)
    (hg : B ≤ g) (hb : Blk w g T (ints p)) : Each T B w (gs ++ [g]) (ps ++ [p]) := by
  refine ⟨by simp [h.1], fun i g' p' hg' hp' => ?_⟩
  rcases Nat.lt_or_ge i gs.length with hi | hi
  · rw [List.getElem?_append_left hi] at hg'
    rw [List.getElem?_append_left (by rw [← h.1]; exact hi)] at hp'
    exact h.2 i g' p' hg' hp'
  · rw [List.getElem?_append_right hi] at hg'
    rw [List.getElem?_append_right (by rw [← h.1]; exact hi)] at hp'
    have h0 : i - gs.length = 0 := by
      rcases Nat.eq_zero_or_pos (i - gs.length) with h0 | h0
      · exact h0
      · rw [List.getElem?_eq_none (by simp; omega)] at hg'; cases hg'
    rw [h0] at hg'
    rw [← h.1, h0] at hp'
    simp at hg' hp'
    subst hg' hp'
    exact ⟨hg, hb⟩

/-- A slice of rows, each of d numbers and of a block of its own, all of them made from B on. -/
def RowsOf (T ST : TypeId) (d B : Nat) (w : World) (v : Value) (ps : List (List Int)) : Prop :=
  ∃ gs, Each T B w gs ps ∧ w.ownsRow B ST 1 v ps.length (gs.map fun g => .slice (some ⟨g, 0, none⟩) d d)
end Lox
namespace Lox
open Go Go.RowKit

/-- What a slice of rows is, written out: its block, and of each place the row's block and numbers. -/
theorem RowsOf.laid {T ST : TypeId} {d B : Nat} {w : World} {v : Value} {ps : List (List Int)} (h : RowsOf T ST d B w v ps) (hn : 0 < ps.length) :
    ∃ (b cap : Nat) (gs : List Nat), v = .slice (some ⟨b, 0, none⟩) ps.length cap ∧ B ≤ b ∧ b < w.heap.size ∧ gs.length = ps.length ∧
      ∀ i, i < ps.length → w.cell? ⟨b, i, none⟩ = some (.slice (some ⟨gs.getD i 0, 0, none⟩) d d) ∧ Blk w (gs.getD i 0) T (ints (ps.getD i [])) := by
  obtain ⟨gs, hE, hown⟩ := h
  rcases hown.2 with ⟨_, h0⟩ | ⟨g, cap, cur, rfl, hb, hg, hc⟩
  · omega
  · refine ⟨g, cap, gs, rfl, hb, (Array.getElem?_eq_some_iff.1 hg).1, hE.1, fun i hi => ⟨?_, ?_⟩⟩
    · have hlen : i < gs.length := by rw [hE.1]; exact hi
      have := hown.cells (g := g) rfl i (.slice (some ⟨gs.getD i 0, 0, none⟩) d d) (by simp [hlen])
      simpa [Addr.add_lit] using this
    · have hlen : i < gs.length := by rw [hE.1]; exact hi
      exact (hE.2 i _ _ (by simp [hlen]) (by simp [hi])).2
end Lox

namespace Go.Proofs.YtmeooadgdagiiaaGreat.K.D
open Go.RowKit Lox
set_option linter.unusedVariables false
variable {S : Nat}
attribute [local go_sem] run_store_flt run_store_fn
attribute [local go_sem ↓] Go.wp_at_zero Go.wp_at_succ

/-- The array, as a row of its own, and the element's pairs in it. -/
theorem kd_own {NK CD PT : TypeId} {w : World} {kb hb len cap : Nat} {els : List El} (h : KD S NK CD PT w kb hb len cap els) (hm : cap ≤ maxLen) :
    ∃ vs, Blk w kb NK [.slice (some ⟨hb, 0, none⟩) len cap] ∧ w.ownsRow 0 CD 2 (.slice (some ⟨hb, 0, none⟩) len cap) len (flat vs) ∧ PairsD S PT vs els ∧ len = els.length ∧ kb ≠ hb := by
  obtain ⟨vs, sp, b1, b2, hsp, hl, hc, hp, hne⟩ := h
  have hvl : vs.length = els.length := hp.1
  have hfl := flat_length vs
  refine ⟨vs, b1, ⟨by omega, .inr ⟨hb, cap, _, rfl, Nat.zero_le _, b2, hc, hm, by simp only [List.size_toArray, List.length_append]; omega, List.take_left' (by omega)⟩⟩, hp, hl, hne⟩

theorem kd_of {NK CD PT : TypeId} {w : World} {kb hb len cap : Nat} {els : List El} {vs : List (Value × Nat)} (b1 : Blk w kb NK [.slice (some ⟨hb, 0, none⟩) len cap])
    (ho : w.ownsRow 0 CD 2 (.slice (some ⟨hb, 0, none⟩) len cap) len (flat vs)) (hp : PairsD S PT vs els) (hl : len = els.length) (hne : kb ≠ hb) : KD S NK CD PT w kb hb len cap els ∧ cap ≤ maxLen := by
  rcases ho.2 with ⟨e, _⟩ | ⟨g, cap', cur, e1, _, hg, hc, hcm, hsz, ht⟩
  · cases e
  · cases e1
    refine ⟨⟨vs, cur.toList.drop (len * 2), b1, ?_, by simp; omega, hl, hc, hp, hne⟩, hcm⟩
    rw [← ht, List.take_append_drop]
    exact hg

theorem own_other {w : World} {B : Nat} {e : TypeId} {size g n cap k i : Nat} {xs : List Value} (h : w.ownsRow B e size (.slice (some ⟨g, 0, none⟩) n cap) n xs) (hne : g ≠ k) (u : Value) : (w.setCell ⟨k, i, none⟩ u).ownsRow B e size (.slice (some ⟨g, 0, none⟩) n cap) n xs := by
  refine ⟨h.1, ?_⟩
  rcases h.2 with ⟨e, _⟩ | ⟨g', cap', cur, e1, hb, hg, rest⟩
  · cases e
  · cases e1
    exact .inr ⟨g, cap, cur, rfl, hb, (Below.heap_setCell _ _ _ _ (by show g ≠ k; exact hne)).trans hg, rest⟩

theorem grown_undrew {w w' : World} {r : Option Nat} (h : w.drew.grownBy w' r) : w.grownBy w' r := ⟨h.os, h.tape, h.output, h.size, h.block⟩

/-- What a Push tells. -/
def PushTold (S kb hb len : Nat) (els : List El) (w : World) (e : Ending) (w' : World) : Prop :=
  ∃ hb' cap', e = .returned (.tuple #[]) ∧ DKS S w' kb hb' len cap' els ∧ cap' ≤ maxLen ∧ (hb' = hb ∨ w.heap.size ≤ hb') ∧ Mod (fun k => k = hb ∨ k = kb) w w'

theorem push_done {kb hb len cap g cap' d : Nat} {A : Value} {els : List El} {w w3 : World} {o : Obj} {vs : List (Value × Nat)} (b1 : Blk w kb 66 [.slice (some ⟨hb, 0, none⟩) len cap]) (hp : PairsD S 50 vs els)
    (hl : len = els.length) (hne : kb ≠ hb) (hhb : hb < w.heap.size) (hd : FinS S d)
    (hown : w3.ownsRow 0 95 2 (.slice (some ⟨g, 0, none⟩) (len + 1) cap') (len + 1) (flat vs ++ [.iface 50 A, .float .f64 d]))
    (hg : (w.alloc o).grownBy w3 (some hb)) (hat : some hb = some g ∨ g = w.heap.size + 1) :
    PushTold S kb hb (len + 1) (els ++ [some (d, A)]) w (.returned (.tuple #[])) (w3.setCell ⟨kb, 0, none⟩ (.slice (some ⟨g, 0, none⟩) (len + 1) cap')) := by
  have hkb := b1.lt
  have hgk : kb ≠ g := by
    rcases hat with h | h
    · cases h; exact hne
    · omega
  have hb3 : Blk w3 kb 66 [.slice (some ⟨hb, 0, none⟩) len cap] := (b1.alloc o).grown hg (fun e => hne (by cases e; rfl))
  have e : flat vs ++ [.iface 50 A, .float .f64 d] = flat (vs ++ [(.iface 50 A, d)]) := by rw [flat_append]; rfl
  rw [e] at hown
  have ho2 : (w3.setCell ⟨kb, 0, none⟩ (.slice (some ⟨g, 0, none⟩) (len + 1) cap')).ownsRow 0 95 2 (.slice (some ⟨g, 0, none⟩) (len + 1) cap') (len + 1) (flat (vs ++ [(.iface 50 A, d)])) :=
    own_other hown hgk.symm _
  have hk := kd_of (S := S) (NK := 66) (PT := 50) (els := els ++ [some (d, A)]) (hb3.set 0 (.slice (some ⟨g, 0, none⟩) (len + 1) cap')) ho2 (hp.snoc ⟨rfl, hd, rfl⟩) (by simp; omega) hgk
  refine ⟨g, cap', rfl, hk.1, hk.2, ?_, ?_⟩
  · rcases hat with h | h
    · cases h; exact .inl rfl
    · exact .inr (by omega)
  · have h1 : Mod (fun k => k = hb ∨ k = kb) w w3 := ((Mod.refl _ w).alloc o).grown hg (fun b e _ => .inl (by cases e; rfl))
    exact h1.set (p := ⟨kb, 0, none⟩) (.inl (.inr rfl)) _

theorem PushTold.drew {S kb hb len : Nat} {els : List El} {w w' : World} {e : Ending} (h : PushTold S kb hb len els w e w') : PushTold S kb hb len els w e w'.drew := by
  obtain ⟨hb', cap', h1, h2, h3, h4, h5⟩ := h
  exact ⟨hb', cap', h1, h2.drew, h3, h4, h5.drew⟩

set_option maxHeartbeats 4000000 in
theorem kpushm_at (w : World) (kb hb len cap d : Nat) (A : Value) (els : List El) (h : DKS S w kb hb len cap els) (hm : cap ≤ maxLen) (hl : len ≤ 4294967296) (hd : FinS S d) :
    Calls Tryz.prog 120 #[.pointer (some ⟨kb, 0, none⟩), .iface 95 (.agg #[.iface 50 A, .float .f64 d])] w (PushTold S kb hb (len + 1) (els ++ [some (d, A)]) w) := by
  obtain ⟨i0, hi0, hz0, hz1, hz2⟩ := info_parts kinfo_cd
  have HI := Lib.hid (And.intro hi0 (And.intro hz0 (And.intro hz1 hz2)))
  clear hi0 hz0 hz1 hz2
  have hta := run_assert_cd
  have c0 := h.top.1
  have z0 := h.top.2
  obtain ⟨hne, hkb, hhb, -, -⟩ := h.bds
  obtain ⟨vs, b1, ho, hp, hle, -⟩ := kd_own h hm
  have HK := Lib.hid (And.intro b1 (And.intro ho (And.intro hp (And.intro hle (And.intro hne (And.intro hhb hd))))))
  clear h b1 ho hp hle
  go_enter Tryz.func120, Tryz.ntmps120
  go_wp2_with fail
  go_region_law ((refine step_append_lies _ (by rfl) (.tmp 7) (.tmp 10) 64 (by rfl) 0 95 i0 _ 2 24 Tryz.underlying64 HI.out.1 HI.out.2.1 HI.out.2.2.1 HI.out.2.2.2 rfl (by omega) (.slice (some ⟨hb, 0, none⟩) len cap) len (flat vs) (by rfl) (HK.out.2.1.alloc _) ⟨w.heap.size, 0, none⟩ 1 1 [.iface 50 A, .float .f64 d] (by rfl) (by rfl) (World.news_of_block (cs := #[.iface 50 A, .float .f64 d]) (t := 95) (fr := (0, 0)) (heap_alloc_new w _)) (by simp [Value.oneCell']) (by omega) (by unfold maxLen; omega) (by omega) (by omega) (w.heap.size + 1) (by simp) ?_; intro gg gcap w3 hown hgrow0 hat hlt3; have hgrow := grown_undrew hgrow0; have cK3 : w3.cell? ⟨kb, 0, none⟩ = some (.slice (some ⟨hb, 0, none⟩) len cap) := (hgrow.cell_far _ (by rw [World.size_alloc]; exact Nat.lt_succ_of_lt hkb) (fun e => HK.out.2.2.2.2.1 (by cases e; rfl))).trans ((World.cell?_alloc_past _ _ _ hkb).trans c0); have fK3 : w3.frozen? ⟨kb, 0, none⟩ = false := (hgrow.frozen_far _ (by rw [World.size_alloc]; exact Nat.lt_succ_of_lt hkb) (fun e => HK.out.2.2.2.2.1 (by cases e; rfl))).trans ((World.frozen?_alloc_past _ _ _ hkb).trans z0)))
  all_goals
    have hD := push_done HK.out.1 HK.out.2.2.1 HK.out.2.2.2.1 HK.out.2.2.2.2.1 HK.out.2.2.2.2.2.1 HK.out.2.2.2.2.2.2 hown hgrow hat
    exact bodyPost_end (by simp [results, Tryz.results120, go_sem]) rfl hD
end Go.Proofs.YtmeooadgdagiiaaGreat.K.D

namespace Go.Proofs.YtmeooadgdagiiaaGreat.K
open Go.RowKit Lox
set_option linter.unusedVariables false
attribute [local go_sem] run_store_flt run_store_fn

end Go.Proofs.YtmeooadgdagiiaaGreat.K

namespace Lox
open Go Go.RowKit
set_option linter.unusedVariables false

/-- Is a number taken, the greatest being t? -/
def takesE (t : El) (d : Nat) : Bool := match t with
  | none => true
  | some m => decide (fk d ≤ fk m.1)

def keepK (cap : Nat) (els : List El) (d : Nat × Value) : List El :=
  if takesE (at' els 0) d.1 = true then (if els.length = cap then (downF (els.set 0 (some d)) 0 els.length).1 else pushF els (some d)) else els

def keepV (cap : Nat) (els : List El) (d : Nat × Value) : List El :=
  if takesE (at' els 0) d.1 = true then pushF (if els.length = cap then popF els else els) (some d) else els

/-- What is held behind the numbers ds: all of them and the mark, as long as they are fewer than n; else n of them, the least ones. -/
structure Kept (n : Nat) (l : List El) (ds : List (Nat × Value)) : Prop where
  heap : HeapN l l.length
  few : ds.length < n → l.Perm (none :: ds.map some)
  full : n ≤ ds.length → ∃ (ks rest : List (Nat × Value)), l.Perm (ks.map some) ∧ ks.length = n ∧ (ks ++ rest).Perm ds ∧ ∀ a ∈ ks, ∀ b ∈ rest, fk a.1 ≤ fk b.1

theorem Kept.start {n : Nat} (h : 0 < n) : Kept n [none] [] := ⟨fun i a b => by simp at b; omega, fun _ => by simp, fun h2 => by simp at h2; omega⟩

theorem Kept.length {n : Nat} {l : List El} {ds : List (Nat × Value)} (h : Kept n l ds) : l.length = min (ds.length + 1) n ∨ n = 0 := by
  rcases Nat.lt_or_ge ds.length n with h1 | h1
  · left
    have := (h.few h1).length_eq
    simp at this
    omega
  · left
    obtain ⟨ks, rest, h2, h3, _⟩ := h.full h1
    have := h2.length_eq
    simp at this
    omega

theorem heap_mem {l : List El} (h : HeapN l l.length) {x : El} (hx : x ∈ l) : leE x (at' l 0) := by
  obtain ⟨i, hi, rfl⟩ := List.getElem_of_mem hx
  have := heap_top h i hi
  unfold at' at *
  rw [List.getD_eq_getElem?_getD, List.getElem?_eq_getElem hi] at this
  exact this

/-- One number more. -/
theorem Kept.step {n : Nat} {l l2 : List El} {ds : List (Nat × Value)} {t : El} {l' : List El} {d : Nat × Value} (hn : 0 < n) (h : Kept n l ds) (hl : l = t :: l') (hh : HeapN l2 l2.length)
    (h1 : takesE t d.1 = true → l.length = n → l2.Perm (some d :: l')) (h2 : takesE t d.1 = true → l.length ≠ n → l2.Perm (some d :: l)) (h3 : takesE t d.1 = false → l2 = l) : Kept n l2 (ds ++ [d]) := by
  have ht : at' l 0 = t := by rw [hl]; rfl
  rcases Nat.lt_or_ge ds.length n with hf | hf
  · have hp := h.few hf
    have hlen : l.length = ds.length + 1 := by have := hp.length_eq; simpa using this
    have htn : t = none := by
      have hm : (none : El) ∈ l := hp.mem_iff.2 (List.mem_cons_self)
      have := heap_mem h.heap hm
      rw [ht] at this
      cases t with
      | none => rfl
      | some m => exact absurd this (by simp [leE])
    subst htn
    have hp' : l'.Perm (ds.map some) := by
      rw [hl] at hp
      exact hp.cons_inv
    by_cases he : l.length = n
    · have hq := h1 rfl he
      refine ⟨hh, fun hx => by simp at hx; omega, fun _ => ⟨ds ++ [d], [], ?_, by simp; omega, by simp, fun a _ b hb => by cases hb⟩⟩
      rw [List.map_append]
      exact hq.trans ((hp'.cons _).trans (List.perm_append_comm (l₁ := [some d])))
    · have hq := h2 rfl he
      refine ⟨hh, fun _ => ?_, fun hx => by simp at hx; omega⟩
      rw [List.map_append]
      exact hq.trans ((hp.cons _).trans ((List.Perm.swap _ _ _).trans ((List.perm_append_comm (l₁ := [some d])).cons _)))
  · obtain ⟨ks, rest, hp, hk, hr, hle⟩ := h.full hf
    have hlen : l.length = n := by have := hp.length_eq; simp at this; omega
    have htm : t ∈ ks.map some := hp.mem_iff.1 (by rw [hl]; exact List.mem_cons_self)
    obtain ⟨m, hm, rfl⟩ := List.mem_map.1 htm
    have hmax : ∀ a ∈ ks, fk a.1 ≤ fk m.1 := fun a ha => by
      have := heap_mem h.heap (x := some a) (hp.mem_iff.2 (List.mem_map.2 ⟨a, ha, rfl⟩))
      rw [ht] at this
      exact this
    by_cases htk : takesE (some m) d.1 = true
    · have hdm : fk d.1 ≤ fk m.1 := of_decide_eq_true htk
      have hq := h1 htk hlen
      obtain ⟨ke, hke⟩ : ∃ ke, ks.Perm (m :: ke) := by
        obtain ⟨k1, k2, rfl⟩ := List.append_of_mem hm
        exact ⟨k1 ++ k2, List.perm_middle⟩
      have hp' : l'.Perm (ke.map some) := by
        have : (some m :: l').Perm (some m :: ke.map some) := by
          rw [← hl]
          exact hp.trans (hke.map some)
        exact this.cons_inv
      refine ⟨hh, fun hx => by simp at hx; omega, fun _ => ⟨d :: ke, m :: rest, hq.trans (hp'.cons _), ?_, ?_, ?_⟩⟩
      · have := hke.length_eq
        simp only [List.length_cons] at this ⊢
        omega
      · have e1 : (d :: ke ++ m :: rest).Perm (d :: (ks ++ rest)) := by
          refine List.Perm.cons _ ?_
          exact List.perm_middle.trans ((hke.symm.append_right rest))
        exact e1.trans ((hr.cons _).trans (List.perm_append_comm (l₁ := [d])))
      · intro a ha b hb
        have ham : fk a.1 ≤ fk m.1 := by
          rcases List.mem_cons.1 ha with rfl | ha
          · exact hdm
          · exact hmax a (hke.mem_iff.2 (List.mem_cons_of_mem _ ha))
        rcases List.mem_cons.1 hb with rfl | hb
        · exact ham
        · exact Int.le_trans ham (hle m hm b hb)
    · have hq := h3 (Bool.eq_false_iff.2 htk)
      have hdm : fk m.1 < fk d.1 := by
        have : ¬ fk d.1 ≤ fk m.1 := fun hx => htk (decide_eq_true hx)
        omega
      subst hq
      refine ⟨hh, fun hx => by simp at hx; omega, fun _ => ⟨ks, rest ++ [d], hp, hk, ?_, ?_⟩⟩
      · rw [← List.append_assoc]
        exact hr.append_right [d]
      · intro a ha b hb
        rcases List.mem_append.1 hb with hb | hb
        · exact hle a ha b hb
        · rw [List.mem_singleton.1 hb]
          have := hmax a ha
          omega

theorem cons_of_pos {l : List El} (h : 0 < l.length) : ∃ l', l = at' l 0 :: l' := by
  cases l with
  | nil => simp at h
  | cons a l' => exact ⟨l', rfl⟩

theorem Kept.pos {n : Nat} {l : List El} {ds : List (Nat × Value)} (h : Kept n l ds) (hn : 0 < n) : 0 < l.length := by
  rcases h.length with h1 | h1 <;> omega

theorem keepK_ok {n : Nat} {l : List El} {ds : List (Nat × Value)} (d : Nat × Value) (hn : 0 < n) (h : Kept n l ds) : Kept n (keepK n l d) (ds ++ [d]) := by
  obtain ⟨l', hl⟩ := cons_of_pos (h.pos hn)
  unfold keepK
  by_cases ht : takesE (at' l 0) d.1 = true
  · rw [if_pos ht]
    by_cases he : l.length = n
    · rw [if_pos he]
      have := fixF_ok (some d) hl h.heap
      unfold fixF at this
      exact h.step hn hl this.2.1 (fun _ _ => this.1) (fun _ hne => absurd he hne) (fun hx => by rw [ht] at hx; cases hx)
    · rw [if_neg he]
      have := pushF_ok (some d) h.heap
      exact h.step hn hl this.2.1 (fun _ hx => absurd hx he) (fun _ _ => this.1) (fun hx => by rw [ht] at hx; cases hx)
  · rw [if_neg ht]
    exact h.step hn hl h.heap (fun hx => absurd hx ht) (fun hx => absurd hx ht) (fun _ => rfl)

theorem keepV_ok {n : Nat} {l : List El} {ds : List (Nat × Value)} (d : Nat × Value) (hn : 0 < n) (h : Kept n l ds) : Kept n (keepV n l d) (ds ++ [d]) := by
  obtain ⟨l', hl⟩ := cons_of_pos (h.pos hn)
  unfold keepV
  by_cases ht : takesE (at' l 0) d.1 = true
  · rw [if_pos ht]
    by_cases he : l.length = n
    · rw [if_pos he]
      have h1 := popF_ok hl h.heap
      have := pushF_ok (some d) h1.2.1
      exact h.step hn hl this.2.1 (fun _ _ => this.1.trans (h1.1.cons _)) (fun _ hne => absurd he hne) (fun hx => by rw [ht] at hx; cases hx)
    · rw [if_neg he]
      have := pushF_ok (some d) h.heap
      exact h.step hn hl this.2.1 (fun _ hx => absurd hx he) (fun _ _ => this.1) (fun hx => by rw [ht] at hx; cases hx)
  · rw [if_neg ht]
    exact h.step hn hl h.heap (fun hx => absurd hx ht) (fun hx => absurd hx ht) (fun _ => rfl)

end Lox

namespace Go.Proofs.YtmeooadgdagiiaaGreat.K
open Go.RowKit Lox
set_option linter.unusedVariables false
attribute [local go_sem] run_store_flt run_store_fn

/-- How a number stands to what the top holds. -/
theorem top_le {PT : TypeId} {v : Value} {b : Nat} {x : El} {d : Nat} (h : ElAt PT v b x) (hd : Lox.Fin d) : (FloatKind.f64.format.order d b == some .lt || FloatKind.f64.format.order d b == some .eq) = takesE x d := by
  cases x with
  | none => obtain ⟨_, rfl⟩ := h; rw [order_inf hd]; rfl
  | some m => obtain ⟨rfl, hm, _⟩ := h; rw [ord_le hd hm]; rfl

theorem mod_put' {S : Nat → Prop} {hb a b : Nat} {w w' : World} {x y : Value} (h : Mod S w w') (hs : S hb) : Mod S w ((w'.setCell ⟨hb, a, none⟩ x).setCell ⟨hb, b, none⟩ y) := by
  have h1 : Mod S w (w'.setCell ⟨hb, a, none⟩ x) := h.set (p := ⟨hb, a, none⟩) (.inl hs) x
  exact h1.set (p := ⟨hb, b, none⟩) (.inl hs) y

end Go.Proofs.YtmeooadgdagiiaaGreat.K

namespace Go.Proofs.YtmeooadgdagiiaaGreat.K.D
open Go.RowKit Lox
set_option linter.unusedVariables false
variable {S : Nat}
attribute [local go_sem] run_store_flt run_store_fn

theorem kmeth_len (a : Addr) (w : World) : (method 279 58 (.pointer (some a)) "Len").run Tryz.prog w = .ok (104, .pointer (some a)) w := by kernel_rfl
theorem kmeth_push (a : Addr) (w : World) : (method 279 58 (.pointer (some a)) "Push").run Tryz.prog w = .ok (120, .pointer (some a)) w := by kernel_rfl

set_option maxRecDepth 100000 in
set_option maxHeartbeats 4000000 in
theorem kpush_at (w : World) (kb hb len cap d : Nat) (A : Value) (els : List El) (h : DKS S w kb hb len cap els) (hm : cap ≤ maxLen) (hl : len ≤ 4294967296) (hd : FinS S d) :
    Calls Tryz.prog 109 #[.iface 58 (.pointer (some ⟨kb, 0, none⟩)), .iface 95 (.agg #[.iface 50 A, .float .f64 d])] w (PushTold S kb hb (len + 1) (pushF els (some (d, A))) w) := by
  have m1 := kmeth_len
  have m2 := kmeth_push
  have hle : els.length = len := h.bds.2.2.2.1.symm
  have hhb := h.bds.2.2.1
  have HK : Hid (DKS S w kb hb len cap els ∧ els.length = len) := ⟨h, hle⟩
  clear h hle
  go_enter Tryz.func109, Tryz.ntmps109
  go_wp2_with (first
    | (go_at_call 120; refine (kpushm_at _ kb hb len cap d A els HK.out.1 hm hl hd).mono ?_; rintro _ w1 ⟨hb1, cap1, rfl, hk1, hc1, hh1, hm1⟩; have HK1 := Lib.hid (And.intro hk1 (And.intro hm1 (And.intro hc1 hh1))); clear hk1 hm1 hc1 hh1)
    | (go_at_call 104; refine (klen_at _ kb hb1 (len + 1) cap1 _ HK1.out.1).mono ?_; rintro _ _ ⟨rfl, rfl⟩)
    | (go_at_call 110; refine (kup_at kb hb1 (len + 1) cap1 (by omega) _ len _ _ (by first | rfl | omega | (push_cast; omega)) HK1.out.1 (by omega)).mono ?_; rintro _ w2 ⟨rfl, hk2, hm2⟩; have HK2 := Lib.hid (And.intro hk2 hm2); clear hk2 hm2))
  refine bodyPost_end (by simp [results, Tryz.results109, go_sem]) rfl ⟨hb1, cap1, rfl, ?_, HK1.out.2.2.1, HK1.out.2.2.2, HK1.out.2.1.trans' HK2.out.2 (fun i hi h => .inl (by have := HK1.out.2.2.2; omega))⟩
  unfold pushF
  rw [HK.out.2]
  exact HK2.out.1

/-- One number more to a keeper within S. -/
def keepD (S : Nat) (l : List El) (d : Nat × Value) : List El := if decide (fk d.1 ≤ fk S) then pushF l (some d) else l

set_option maxRecDepth 100000 in
set_option maxHeartbeats 8000000 in
theorem kkeep_at (w : World) (kb hb len cap d : Nat) (A : Value) (els : List El) (h : DKS S w kb hb len cap els) (h0 : 0 < len) (hm : cap ≤ maxLen) (hl : len ≤ 4294967296) (hd : Lox.Fin d) (hS : Lox.Fin S) (ht : at' els 0 = none) :
    Calls Tryz.prog 103 #[.pointer (some ⟨kb, 0, none⟩), .agg #[.iface 50 A, .float .f64 d]] w (PushTold S kb hb (keepD S els (d, A)).length (keepD S els (d, A)) w) := by
  have c0 := h.top.1
  have z0 := h.top.2
  obtain ⟨v, b, d0, d1, f0, f1, he⟩ := h.at h0
  obtain ⟨hne, hkb, hhb, hle, hlc⟩ := h.bds
  simp only [Nat.zero_mul, Nat.zero_add] at d0 d1 f0 f1
  rw [ht] at he
  obtain ⟨rfl, rfl⟩ := he
  have htk := ord_le hd hS
  obtain ⟨g, hg⟩ : ∃ g, g = decide (fk d ≤ fk b) := ⟨_, rfl⟩
  rw [← hg] at htk
  have HK : Hid (DKS b w kb hb len cap els ∧ g = decide (fk d ≤ fk b) ∧ len = els.length) := ⟨h, hg, hle⟩
  have hgt : g = true → FinS b d := fun e => ⟨hd, by rw [ord_gt hd hS]; rw [e] at hg; have := of_decide_eq_true hg.symm; exact decide_eq_false (by omega)⟩
  have i1 : (0 : Int) < len := by omega
  clear h hg ht hle
  cases g with
  | false =>
    clear hgt
    go_enter Tryz.func103, Tryz.ntmps103
    go_wp2_with fail
    go_quiet (fail)
    go_wp2_with fail
    have hk : keepD b els (d, A) = els := by unfold keepD; rw [← HK.out.2.1]; rfl
    rw [hk, ← HK.out.2.2]
    exact bodyPost_end (by simp [results, Tryz.results103, go_sem]) rfl ⟨hb, cap, rfl, (HK.out.1.alloc _).drewN _, hm, .inl rfl, ((Mod.refl _ _).alloc _).trans (mod_drewN _ _ _)⟩
  | true =>
    have HG := Lib.hid (hgt rfl)
    clear hgt
    go_enter Tryz.func103, Tryz.ntmps103
    go_wp2_with fail
    go_quiet (fail)
    go_wp2_with (go_at_call 109; refine (kpush_at _ kb hb len cap d A els ((HK.out.1.alloc _).drewN _) hm hl HG.out).mono ?_; rintro _ w2 ⟨hb2, cap2, rfl, hk2, hc2, hh2, hm2⟩; have HK2 := Lib.hid (And.intro hk2 (And.intro hm2 (And.intro hc2 hh2))); clear hk2 hm2 hc2 hh2)
    have hk : keepD b els (d, A) = pushF els (some (d, A)) := by unfold keepD; rw [← HK.out.2.1]; rfl
    rw [hk, ← HK2.out.1.bds.2.2.2.1]
    refine bodyPost_end (by simp [results, Tryz.results103, go_sem]) rfl ⟨hb2, cap2, rfl, HK2.out.1, HK2.out.2.2.1, ?_, (((Mod.refl _ _).alloc _).trans (mod_drewN _ _ _)).trans HK2.out.2.1⟩
    rcases HK2.out.2.2.2 with h | h
    · exact .inl h
    · exact .inr (by simp at h; omega)
end Go.Proofs.YtmeooadgdagiiaaGreat.K.D

namespace Go.Proofs.YtmeooadgdagiiaaGreat.K.D
open Go.RowKit Lox
set_option linter.unusedVariables false

def within (S : Nat) (ds : List (Nat × Value)) : List (Nat × Value) := ds.filter fun d => decide (fk d.1 ≤ fk S)

structure KeptIn (S : Nat) (l : List El) (ds : List (Nat × Value)) : Prop where
  heap : HeapN l l.length
  perm : l.Perm (none :: (within S ds).map some)

theorem KeptIn.start (S : Nat) : KeptIn S [none] [] := ⟨fun i h0 h1 => by simp at h1; omega, .refl _⟩

theorem keepD_ok {S : Nat} {l : List El} {ds : List (Nat × Value)} (d : Nat × Value) (h : KeptIn S l ds) : KeptIn S (keepD S l d) (ds ++ [d]) := by
  unfold keepD
  by_cases hd : decide (fk d.1 ≤ fk S) = true
  · rw [if_pos hd]
    have hp := pushF_ok (some d) h.heap
    refine ⟨hp.2.1, hp.1.trans ?_⟩
    have e : within S (ds ++ [d]) = within S ds ++ [d] := by unfold within; rw [List.filter_append]; simp [of_decide_eq_true hd]
    rw [e, List.map_append]
    exact (h.perm.cons _).trans ((List.Perm.swap _ _ _).trans ((List.perm_append_comm (l₁ := [some d])).cons _))
  · rw [if_neg hd]
    refine ⟨h.heap, ?_⟩
    have e : within S (ds ++ [d]) = within S ds := by
      unfold within
      rw [List.filter_append]
      have : ¬ fk d.1 ≤ fk S := fun h => hd (decide_eq_true h)
      simp [this]
    rw [e]
    exact h.perm

theorem KeptIn.length {S : Nat} {l : List El} {ds : List (Nat × Value)} (h : KeptIn S l ds) : 0 < l.length ∧ l.length ≤ ds.length + 1 := by
  have h1 := h.perm.length_eq
  have h2 := List.length_filter_le (fun d => decide (fk d.1 ≤ fk S)) ds
  unfold within at h1
  simp at h1
  omega

theorem KeptIn.top {S : Nat} {l : List El} {ds : List (Nat × Value)} (h : KeptIn S l ds) : at' l 0 = none := by
  have := heap_mem h.heap (h.perm.mem_iff.2 (List.mem_cons_self))
  cases hx : at' l 0 with
  | none => rfl
  | some m => rw [hx] at this; exact absurd this (by simp [leE])
end Go.Proofs.YtmeooadgdagiiaaGreat.K.D

namespace Go.Proofs.YtmeooadgdagiiaaGreat
open Go.RowKit Lox Go.Sort
set_option linter.unusedVariables false

/-- What is asked of a receiver .iface T rv: Less and Swap are reached, St w d tells that the world holds the list d; only blocks of S turn, all below H; what lies from H on does not touch the list. -/
structure Srt {α : Type} [Inhabited α] (T : TypeId) (rv vl vs : Value) (gl gs : Nat) (lt : α → α → Bool) (n H : Nat) (S : Nat → Prop) (St : World → Array α → Prop) : Prop where
  findL : ∀ w d, St w d → (method 279 T rv "Less").run Tryz.prog w = .ok (gl, vl) w
  findS : ∀ w d, St w d → (method 279 T rv "Swap").run Tryz.prog w = .ok (gs, vs) w
  enterL : ∀ args w, (callFunc gl args).run Tryz.prog w = .ok (.enter gl args) w
  enterS : ∀ args w, (callFunc gs args).run Tryz.prog w = .ok (.enter gs args) w
  size : ∀ w d, St w d → d.size = n
  most : n < 4611686018427387904
  keep : ∀ w w' d, Mod (fun k => H ≤ k) w w' → St w d → St w' d
  low : ∀ w d, St w d → H ≤ w.heap.size
  less : ∀ w d (i j : Nat), St w d → i < n → j < n → i ≠ j → Calls Tryz.prog gl #[vl, .int .i64 i, .int .i64 j] w fun e w' => e = .returned (.bool (lt d[i]! d[j]!)) ∧ Mod (fun _ => False) w w'
  swap : ∀ w d (i j : Nat), St w d → i < n → j < n → Calls Tryz.prog gs #[vs, .int .i64 i, .int .i64 j] w fun e w' => e = .returned (.tuple #[]) ∧ St w' (swp d i j) ∧ Mod S w w'
  far : ∀ k, S k → k < H

variable {α : Type} [Inhabited α] {T : TypeId} {rv vl vs : Value} {gl gs n H : Nat} {lt : α → α → Bool} {S : Nat → Prop} {St : World → Array α → Prop}

/-- The world holds some list. -/
def Okd (St : World → Array α → Prop) (w : World) : Prop := ∃ d, St w d

theorem Srt.mL (h : Srt T rv vl vs gl gs lt n H S St) : ∀ w, Okd St w → (method 279 T rv "Less").run Tryz.prog w = .ok (gl, vl) w := fun w ⟨d, hd⟩ => h.findL w d hd
theorem Srt.mS (h : Srt T rv vl vs gl gs lt n H S St) : ∀ w, Okd St w → (method 279 T rv "Swap").run Tryz.prog w = .ok (gs, vs) w := fun w ⟨d, hd⟩ => h.findS w d hd

/-- Where a call of the family ends. -/
def SrtEnd (S : Nat → Prop) (St : World → Array α → Prop) (d' : Array α) (w : World) (e : Ending) (w' : World) : Prop := e = .returned (.tuple #[]) ∧ St w' d' ∧ Mod S w w'

theorem none_sub {S : Nat → Prop} {w w' : World} (h : Mod (fun _ => False) w w') : Mod S w w' := ⟨h.os, h.tape, h.output, h.size, fun k hk _ => h.block k hk (fun h => h)⟩

theorem Srt.keep0 {w w' : World} {d : Array α} (h : Srt T rv vl vs gl gs lt n H S St) (hm : Mod (fun _ => False) w w') (hs : St w d) : St w' d := h.keep _ _ _ (none_sub hm) hs

set_option maxHeartbeats 2000000 in
set_option maxRecDepth 100000 in
theorem insertion_at (h : Srt T rv vl vs gl gs lt n H S St) (a b : Nat) (d : Array α) (w : World) (hH : St w d) (hab : a ≤ b) (hb : b ≤ n) :
    Calls Tryz.prog 50 #[.iface T rv, .int .i64 a, .int .i64 b] w (SrtEnd S St (insertionSort lt d a b) w) := by
  have mL := h.mL
  have mS := h.mS
  have eL := h.enterL
  have eS := h.enterS
  have hsz := h.most
  have HD := Lib.hid (And.intro h hH)
  clear h hH
  go_enter Tryz.func50, Tryz.ntmps50
  go_wp2
  go_loopw [6] (fun vi wr => ∃ i : Nat, vi = .int .i64 i ∧ a < i ∧ i ≤ b + 1 ∧ Hid (∃ dk, St wr dk ∧ Mod S w wr ∧ insOuter lt a b i dk = insOuter lt a b (a + 1) d)) (fun vi _ => b + 1 - (intOf vi).toNat)
  case atStart => exact ⟨a + 1, by go_num, by omega, by omega, d, HD.out.2, Mod.refl _ _, rfl⟩
  case round =>
    obtain ⟨i, rfl, hai, hib, HR⟩ := hrel
    obtain ⟨dk, h1, h2, h3⟩ := HR.out
    have HO := Lib.hid (And.intro h1 (And.intro h2 h3))
    clear h1 h2 h3
    by_cases hlt : i < b
    · have hlt' : (i : Int) < b := by omega
      go_wp2
      go_loopw [7] (fun vj wr2 => ∃ j : Nat, vj = .int .i64 j ∧ a ≤ j ∧ j ≤ i ∧ Hid (∃ dj, St wr2 dj ∧ Mod S w wr2 ∧ insInner lt a j dj = insInner lt a i dk)) (fun vj _ => (intOf vj).toNat)
      case atStart => exact ⟨i, rfl, by omega, Nat.le_refl _, dk, HO.out.1, HO.out.2.1, rfl⟩
      case round =>
        obtain ⟨j, rfl, haj, hji, HJ⟩ := hrel
        obtain ⟨dj, k1, k2, k3⟩ := HJ.out
        have HI := Lib.hid (And.intro k1 (And.intro k2 k3))
        clear k1 k2 k3
        have r0 : Okd St wr := ⟨_, HI.out.1⟩
        by_cases hja : a < j
        · have hja' : (a : Int) < j := by omega
          have ej : (((j - 1 : Nat) : Int)) = (j : Int) - 1 := by omega
          have hl := fun w2 (hm : Mod (fun _ => False) wr w2) => HD.out.1.less w2 dj j (j - 1) (HD.out.1.keep0 hm HI.out.1) (by omega) (by omega) (by omega)
          have hs := fun w2 (hm : Mod (fun _ => False) wr w2) => HD.out.1.swap w2 dj j (j - 1) (HD.out.1.keep0 hm HI.out.1) (by omega) (by omega)
          rw [ej] at hl hs
          cases hlv : lt dj[j]! dj[j - 1]! with
          | true =>
            rw [hlv] at hl
            have HL := Lib.hid hl
            have HS := Lib.hid hs
            clear hl hs
            go_wp2_with (first
              | (go_at_fn gl; refine (HL.out _ (Mod.refl _ _)).mono ?_; rintro e w3 ⟨rfl, hm3⟩; have r3 : Okd St w3 := ⟨_, HD.out.1.keep0 hm3 HI.out.1⟩; have H3 := Lib.hid hm3; clear hm3)
              | (go_at_fn gs; refine (HS.out _ H3.out).mono ?_; rintro e w4 ⟨rfl, hs4, hm4⟩; have H4 := Lib.hid (And.intro hs4 ((none_sub H3.out).trans hm4)); clear hs4 hm4))
            go_roundw
            case rel => exact ⟨j - 1, by congr 1; omega, by omega, by omega, swp dj j (j - 1), H4.out.1, HI.out.2.1.trans H4.out.2, by rw [← HI.out.2.2, insInner_go lt a j dj hja hlv]⟩
            case measure => simp [intOf]; omega
          | false =>
            rw [hlv] at hl
            have HL := Lib.hid hl
            clear hl hs
            go_wp2_with (go_at_fn gl; refine (HL.out _ (Mod.refl _ _)).mono ?_; rintro e w3 ⟨rfl, hm3⟩; have H3 := Lib.hid hm3; clear hm3)
            go_roundw
            case rel => exact ⟨i + 1, by go_num, by omega, by omega, dj, HD.out.1.keep0 H3.out HI.out.1, HI.out.2.1.trans (none_sub H3.out), by rw [← HO.out.2.2, insOuter_go _ _ _ _ _ hlt, ← HI.out.2.2, insInner_stop _ _ _ _ (.inr hlv)]⟩
            case measure => simp [intOf]; omega
        · have hja' : ¬ (a : Int) < j := by omega
          go_wp2
          go_roundw
          case rel => exact ⟨i + 1, by go_num, by omega, by omega, dj, HI.out.1, HI.out.2.1, by rw [← HO.out.2.2, insOuter_go _ _ _ _ _ hlt, ← HI.out.2.2, insInner_stop _ _ _ _ (.inl (by omega))]⟩
          case measure => simp [intOf]; omega
    · have hlt' : ¬ (i : Int) < b := by omega
      go_wp2
      go_end0
      exact ⟨rfl, by unfold insertionSort; rw [← HO.out.2.2, insOuter_stop _ _ _ _ _ hlt]; exact HO.out.1, HO.out.2.1⟩
end Go.Proofs.YtmeooadgdagiiaaGreat
