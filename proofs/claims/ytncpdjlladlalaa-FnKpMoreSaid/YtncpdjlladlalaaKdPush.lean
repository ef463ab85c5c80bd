/- The walks of Push over a keeper within a distance, whose array may grow. Conditions: as each says. -/
import Derived.Test.YtncpdjlladlalaaKdUp
import Derived.Test.YtncpdjlladlalaaKkPush
import Derived.Test.YtncpdjlladlalaaEach
import Derived.Deep.RegionLaw
import Derived.Deep.AppendLies
import Derived.Deep.DrawnRows
namespace Go.Proofs.Ytncpdjlladlalaa.D
open Go.RowKit Lox
set_option linter.unusedVariables false
variable {S : Nat}
attribute [local go_sem] run_store_flt run_store_fn
attribute [local go_sem ↓] Go.wp_at_zero Go.wp_at_succ

/-- The array, as a row of its own, and the element's pairs in it. -/
theorem kd_own {NK CD PT : TypeId} {w : World} {kb hb len cap : Nat} {els : List El} (h : KD S NK CD PT w kb hb len cap els) (hm : cap ≤ maxLen) :
    ∃ vs, Blk w kb NK [.slice (some ⟨hb, 0, none⟩) len cap] ∧ w.ownsRow 0 CD 2 (.slice (some ⟨hb, 0, none⟩) len cap) len (flat vs) ∧ PairsD S PT vs els ∧ len = els.length ∧ kb ≠ hb := by
  obtain ⟨vs, sp, b1, b2, hsp, hl, hc, hp, hne⟩ := h
  have hvl : vs.length = els.length := hp.1
  have hfl := flat_length vs
  refine ⟨vs, b1, ⟨by omega, .inr ⟨hb, cap, _, rfl, Nat.zero_le _, b2, hc, hm, by simp only [List.size_toArray, List.length_append]; omega, List.take_left' (by omega)⟩⟩, hp, hl, hne⟩

theorem kd_of {NK CD PT : TypeId} {w : World} {kb hb len cap : Nat} {els : List El} {vs : List (Value × Nat)} (b1 : Blk w kb NK [.slice (some ⟨hb, 0, none⟩) len cap])
    (ho : w.ownsRow 0 CD 2 (.slice (some ⟨hb, 0, none⟩) len cap) len (flat vs)) (hp : PairsD S PT vs els) (hl : len = els.length) (hne : kb ≠ hb) : KD S NK CD PT w kb hb len cap els ∧ cap ≤ maxLen := by
  rcases ho.2 with ⟨e, _⟩ | ⟨g, cap', cur, e1, _, hg, hc, hcm, hsz, ht⟩
  · cases e
  · cases e1
    refine ⟨⟨vs, cur.toList.drop (len * 2), b1, ?_, by simp; omega, hl, hc, hp, hne⟩, hcm⟩
    rw [← ht, List.take_append_drop]
    exact hg

theorem own_other {w : World} {B : Nat} {e : TypeId} {size g n cap k i : Nat} {xs : List Value} (h : w.ownsRow B e size (.slice (some ⟨g, 0, none⟩) n cap) n xs) (hne : g ≠ k) (u : Value) : (w.setCell ⟨k, i, none⟩ u).ownsRow B e size (.slice (some ⟨g, 0, none⟩) n cap) n xs := by
  refine ⟨h.1, ?_⟩
  rcases h.2 with ⟨e, _⟩ | ⟨g', cap', cur, e1, hb, hg, rest⟩
  · cases e
  · cases e1
    exact .inr ⟨g, cap, cur, rfl, hb, (Below.heap_setCell _ _ _ _ (by show g ≠ k; exact hne)).trans hg, rest⟩

theorem grown_undrew {w w' : World} {r : Option Nat} (h : w.drew.grownBy w' r) : w.grownBy w' r := ⟨h.os, h.tape, h.output, h.size, h.block⟩

/-- What a Push tells. -/
def PushTold (S kb hb len : Nat) (els : List El) (w : World) (e : Ending) (w' : World) : Prop :=
  ∃ hb' cap', e = .returned (.tuple #[]) ∧ DKS S w' kb hb' len cap' els ∧ cap' ≤ maxLen ∧ (hb' = hb ∨ w.heap.size ≤ hb') ∧ Mod (fun k => k = hb ∨ k = kb) w w'

theorem push_done {kb hb len cap g cap' d : Nat} {A : Value} {els : List El} {w w3 : World} {o : Obj} {vs : List (Value × Nat)} (b1 : Blk w kb 96 [.slice (some ⟨hb, 0, none⟩) len cap]) (hp : PairsD S 71 vs els)
    (hl : len = els.length) (hne : kb ≠ hb) (hhb : hb < w.heap.size) (hd : FinS S d)
    (hown : w3.ownsRow 0 88 2 (.slice (some ⟨g, 0, none⟩) (len + 1) cap') (len + 1) (flat vs ++ [.iface 71 A, .float .f64 d]))
    (hg : (w.alloc o).grownBy w3 (some hb)) (hat : some hb = some g ∨ g = w.heap.size + 1) :
    PushTold S kb hb (len + 1) (els ++ [some d]) w (.returned (.tuple #[])) (w3.setCell ⟨kb, 0, none⟩ (.slice (some ⟨g, 0, none⟩) (len + 1) cap')) := by
  have hkb := b1.lt
  have hgk : kb ≠ g := by
    rcases hat with h | h
    · cases h; exact hne
    · omega
  have hb3 : Blk w3 kb 96 [.slice (some ⟨hb, 0, none⟩) len cap] := (b1.alloc o).grown hg (fun e => hne (by cases e; rfl))
  have e : flat vs ++ [.iface 71 A, .float .f64 d] = flat (vs ++ [(.iface 71 A, d)]) := by rw [flat_append]; rfl
  rw [e] at hown
  have ho2 : (w3.setCell ⟨kb, 0, none⟩ (.slice (some ⟨g, 0, none⟩) (len + 1) cap')).ownsRow 0 88 2 (.slice (some ⟨g, 0, none⟩) (len + 1) cap') (len + 1) (flat (vs ++ [(.iface 71 A, d)])) :=
    own_other hown hgk.symm _
  have hk := kd_of (S := S) (NK := 96) (PT := 71) (els := els ++ [some d]) (hb3.set 0 (.slice (some ⟨g, 0, none⟩) (len + 1) cap')) ho2 (hp.snoc ⟨rfl, hd, A, rfl⟩) (by simp; omega) hgk
  refine ⟨g, cap', rfl, hk.1, hk.2, ?_, ?_⟩
  · rcases hat with h | h
    · cases h; exact .inl rfl
    · exact .inr (by omega)
  · have h1 : Mod (fun k => k = hb ∨ k = kb) w w3 := ((Mod.refl _ w).alloc o).grown hg (fun b e _ => .inl (by cases e; rfl))
    exact h1.set (p := ⟨kb, 0, none⟩) (.inl (.inr rfl)) _

theorem PushTold.drew {S kb hb len : Nat} {els : List El} {w w' : World} {e : Ending} (h : PushTold S kb hb len els w e w') : PushTold S kb hb len els w e w'.drew := by
  obtain ⟨hb', cap', h1, h2, h3, h4, h5⟩ := h
  exact ⟨hb', cap', h1, h2.drew, h3, h4, h5.drew⟩

set_option maxHeartbeats 4000000 in
theorem kpushm_at (w : World) (kb hb len cap d : Nat) (A : Value) (els : List El) (h : DKS S w kb hb len cap els) (hm : cap ≤ maxLen) (hl : len ≤ 4294967296) (hd : FinS S d) :
    Calls Try.prog 104 #[.pointer (some ⟨kb, 0, none⟩), .iface 88 (.agg #[.iface 71 A, .float .f64 d])] w (PushTold S kb hb (len + 1) (els ++ [some d]) w) := by
  obtain ⟨i0, hi0, hz0, hz1, hz2⟩ := info_parts kinfo_cd
  have HI := Lib.hid (And.intro hi0 (And.intro hz0 (And.intro hz1 hz2)))
  clear hi0 hz0 hz1 hz2
  have hta := run_assert_cd
  have c0 := h.top.1
  have z0 := h.top.2
  obtain ⟨hne, hkb, hhb, -, -⟩ := h.bds
  obtain ⟨vs, b1, ho, hp, hle, -⟩ := kd_own h hm
  have HK := Lib.hid (And.intro b1 (And.intro ho (And.intro hp (And.intro hle (And.intro hne (And.intro hhb hd))))))
  clear h b1 ho hp hle
  go_enter Try.func104, Try.ntmps104
  go_wp2_with fail
  go_region_law ((refine step_append_lies _ (by rfl) (.tmp 7) (.tmp 10) 91 (by rfl) 0 88 i0 _ 2 24 Try.underlying91 HI.out.1 HI.out.2.1 HI.out.2.2.1 HI.out.2.2.2 rfl (by omega) (.slice (some ⟨hb, 0, none⟩) len cap) len (flat vs) (by rfl) (HK.out.2.1.alloc _) ⟨w.heap.size, 0, none⟩ 1 1 [.iface 71 A, .float .f64 d] (by rfl) (by rfl) (World.news_of_block (cs := #[.iface 71 A, .float .f64 d]) (t := 88) (fr := (0, 0)) (heap_alloc_new w _)) (by simp [Value.oneCell']) (by omega) (by unfold maxLen; omega) (by omega) (by omega) (w.heap.size + 1) (by simp) ?_; intro gg gcap w3 hown hgrow0 hat hlt3; have hgrow := grown_undrew hgrow0; have cK3 : w3.cell? ⟨kb, 0, none⟩ = some (.slice (some ⟨hb, 0, none⟩) len cap) := (hgrow.cell_far _ (by rw [World.size_alloc]; exact Nat.lt_succ_of_lt hkb) (fun e => HK.out.2.2.2.2.1 (by cases e; rfl))).trans ((World.cell?_alloc_past _ _ _ hkb).trans c0); have fK3 : w3.frozen? ⟨kb, 0, none⟩ = false := (hgrow.frozen_far _ (by rw [World.size_alloc]; exact Nat.lt_succ_of_lt hkb) (fun e => HK.out.2.2.2.2.1 (by cases e; rfl))).trans ((World.frozen?_alloc_past _ _ _ hkb).trans z0)))
  all_goals
    have hD := push_done HK.out.1 HK.out.2.2.1 HK.out.2.2.2.1 HK.out.2.2.2.2.1 HK.out.2.2.2.2.2.1 HK.out.2.2.2.2.2.2 hown hgrow hat
    exact bodyPost_end (by simp [results, Try.results104, go_sem]) rfl hD
end Go.Proofs.Ytncpdjlladlalaa.D
