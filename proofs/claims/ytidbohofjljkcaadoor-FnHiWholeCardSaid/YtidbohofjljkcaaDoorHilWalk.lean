/- The walk along a Hilbert curve: the places of n positions from one on, one behind another. Conditions: 2, 3 or 4 dimensions, orders from 1 to 31, 20, 15; positions on the curve. -/
import Derived.Test.YtidbohofjljkcaaDoorHilNew
import Derived.Deep.RegionLaw
import Derived.Deep.DrawnRows
namespace Go.Proofs.YtidbohofjljkcaaDoor
open Go.RowKit Lox Hil
set_option linter.unusedVariables false
attribute [local go_sem ↓] Go.wp_at_zero Go.wp_at_succ

theorem info_slice : (Tryd.prog.info? 26).map (fun i => (i.zero, i.size, i.bytes)) = some (some (.slice none 0 0), 1, 24) := by kernel_rfl

/-- The places of n positions from one on. -/
def places (d o fr n : Nat) : List (List Int) := (List.range n).map fun i => place d o (fr + i)
theorem places_succ (d o fr n : Nat) : places d o fr (n + 1) = places d o fr n ++ [place d o (fr + n)] := by simp [places, List.range_succ]
theorem places_len (d o fr n : Nat) : (places d o fr n).length = n := by simp [places]

def NewRow (d : Nat) (xs : List Int) (w : World) (e : Ending) (w' : World) : Prop :=
  ∃ g, e = .returned (.slice (some ⟨g, 0, none⟩) d d) ∧ w.heap.size ≤ g ∧ Blk w' g 3 (ints xs) ∧ Mod (fun _ => False) w w'

def WRel (d o fr n k : Nat) (v : Value) (gs : List Nat) (w wr : World) : Prop :=
  Blk wr w.heap.size 23 [v] ∧ Blk wr (w.heap.size + 1) 4 [.bool false] ∧ Each 3 (w.heap.size + 2) wr gs (places d o fr k) ∧ wr.ownsRow (w.heap.size + 2) 26 1 v k (gs.map fun g => .slice (some ⟨g, 0, none⟩) d d) ∧ w.heap.size + 2 ≤ wr.heap.size ∧ Mod (fun _ => False) w wr

theorem each_alloc {T : TypeId} {B : Nat} {w : World} {gs : List Nat} {ps : List (List Int)} (h : Each T B w gs ps) (o : Obj) : Each T B (w.alloc o) gs ps :=
  h.keep fun k _ hk => Below.heap_alloc _ _ _ hk

theorem walk_step {d o fr n k g gg cap : Nat} {v : Value} {gs : List Nat} {w wr w1 w2 w3 : World} {c : Array Value} {T : TypeId} (h : WRel d o fr n k v gs w wr)
    (hm1 : Mod (fun _ => False) wr w1) (hm2 : Mod (fun _ => False) (w1.alloc (.cells c T)).drew w2) (hg : (w1.alloc (.cells c T)).drew.heap.size ≤ g)
    (hb2 : Blk w2 g 3 (ints (place d o (fr + k)))) {cs : Array Value} {S : TypeId} (hgrow : (w2.alloc (.cells cs S)).grownBy w3 v.ownBlock)
    (hown3 : w3.ownsRow (w.heap.size + 2) 26 1 (.slice (some ⟨gg, 0, none⟩) (k + 1) cap) (k + 1) ((gs.map fun g => .slice (some ⟨g, 0, none⟩) d d) ++ [.slice (some ⟨g, 0, none⟩) d d])) :
    WRel d o fr n (k + 1) (.slice (some ⟨gg, 0, none⟩) (k + 1) cap) (gs ++ [g]) w (w3.setCell ⟨w.heap.size, 0, none⟩ (.slice (some ⟨gg, 0, none⟩) (k + 1) cap)) := by
  obtain ⟨hL, hO, hE, hown, hsz, hM⟩ := h
  have s1 := hm1.size
  have s2 : w1.heap.size + 1 ≤ w2.heap.size := by simpa using hm2.size
  have hg' : w1.heap.size + 1 ≤ g := by simpa using hg
  have haL : v.ownBlock ≠ some w.heap.size := fun e => by have := hown.lt _ e; omega
  have haO : v.ownBlock ≠ some (w.heap.size + 1) := fun e => by have := hown.lt _ e; omega
  have hnf : ¬ False := fun h => h
  have L3 := (((((hL.mod hm1 hnf).alloc (.cells c T)).drew.mod hm2 hnf).alloc (.cells cs S)).grown hgrow (Ne.symm haL))
  have O3 := (((((hO.mod hm1 hnf).alloc (.cells c T)).drew.mod hm2 hnf).alloc (.cells cs S)).grown hgrow (Ne.symm haO))
  have own2 := (((hown.kept hm1.grownBy (Decidable.em _)).alloc (.cells c T)).drew.kept hm2.grownBy (Decidable.em _)).alloc (.cells cs S)
  have e1 := hE.grown hm1.grownBy (fun _ _ _ => by simp)
  have e1' : Each 3 (w.heap.size + 2) (w1.alloc (.cells c T)).drew gs (places d o fr k) := each_alloc e1 (.cells c T)
  have e2 := e1'.grown hm2.grownBy (fun _ _ _ => by simp)
  have e3 := each_alloc (e2.snoc (g := g) (by omega) hb2) (.cells cs S)
  have e4 := e3.grown hgrow (fun g' ys hb => owns_ne own2 hb (by decide))
  refine ⟨?_, ?_, ?_, ?_, ?_, ?_⟩
  · exact L3.set 0 _
  · exact O3.other _ (by show w.heap.size ≠ _; omega)
  · rw [places_succ]
    exact e4.keep fun k hk _ => Below.heap_setCell _ _ _ _ (by show k ≠ w.heap.size; omega)
  · rw [List.map_append]
    exact ownsRow_setCell_below hown3 (by show w.heap.size < _; omega) _
  · have := hgrow.size
    simp [World.setCell] at this ⊢
    omega
  · exact (((((hM.trans hm1).alloc _).drew.trans (hm2.trans ((Mod.refl _ _).alloc (.cells cs S)))).grown hgrow (fun k hk hlt => by have := hown.lt _ hk; omega)).set (.inr (Nat.le_refl _)) _)

def Walked (d : Nat) (ps : List (List Int)) (w : World) (e : Ending) (w' : World) : Prop :=
  ∃ v, e = .returned (.tuple #[v, .bool true]) ∧ RowsOf 3 26 d w.heap.size w' v ps ∧ Mod (fun _ => False) w w'

theorem coord_at2 (o P : Nat) (A : Int) (w : World) (hA : A = P) (ho : o ≤ 31) (hP : P < 9223372036854775808) :
    Calls Tryd.prog 14 #[.agg #[.int .i64 o], .slice none 0 0, .int .i64 A] w (NewRow 2 (place 2 o P) w) := by
  subst hA
  refine (coord2 o P w ho hP).mono ?_
  rintro e w' ⟨g, rfl, h⟩
  exact ⟨g, by rw [place_len], h⟩

set_option maxRecDepth 100000 in
set_option maxHeartbeats 2000000 in
theorem hwalk2 (o fr n : Nat) (w : World) (h1 : 1 ≤ o) (h2 : o ≤ 31) (hn1 : 1 ≤ n) (hn : n ≤ 100000) (hf : fr + n ≤ 4611686018427387904) :
    Calls Tryd.prog 8 #[.int .i64 2, .int .i64 o, .int .i64 fr, .int .i64 n] w (Walked 2 (places 2 o fr n) w) := by
  have hmf : ∀ (fn : Fn) (first cap : Array Value) (w : World), (Instr.makeFunc fn first cap).run Tryd.prog w = .ok (.func fn first cap) w := fun _ _ _ _ => rfl
  have HF := Lib.hid hf
  have hfb : (fr : Int) + n ≤ 4611686018427387904 := by omega
  clear hf
  obtain ⟨i0, hi0, hz0, hz1, hz2⟩ := info_parts info_slice
  have HI := Lib.hid (And.intro hi0 (And.intro hz0 (And.intro hz1 hz2)))
  clear hi0 hz0 hz1 hz2
  go_enter_defers Tryd.func8, Tryd.ntmps8
  go_wp2_with fail
  go_loopw [10] (fun i wr => ∃ k : Nat, k ≤ n ∧ i = .int .i64 ((fr : Int) + k) ∧ ∃ v gs, WRel 2 o fr n k v gs w wr) (fun i _ => ((fr : Int) + n - intOf i).toNat)
  case atStart =>
    refine ⟨0, Nat.zero_le _, by simp, .slice none 0 0, [], ?_, ?_, Each.nil _ _ _, World.ownsRow_nil _ _ _ _, by simp, ?_⟩
    · exact (Blk.new' w #[.slice none 0 0] 23).alloc _
    · have := Blk.new' (w.alloc (.cells #[.slice none 0 0] 23)) #[.bool false] 4
      simp only [World.size_alloc] at this
      exact this
    · exact ((Mod.refl _ _).alloc _).alloc _
  case round =>
    obtain ⟨k, hk, rfl, v, gs, HR⟩ := hrel
    have hrel := HR
    obtain ⟨hL, hO, hE, hown, hsz, hM⟩ := hrel
    have hL0 := hL.at (i := 0) rfl
    have fL0 := hL.frozen 0
    have hO0 := hO.at (i := 0) rfl
    have fO0 := hO.frozen 0
    have hLs := hL.lt
    have hOs := hO.lt
    by_cases hlt : k < n
    · go_wp2_with (go_at_call 13; refine (new2 o _ h1 h2).mono ?_; rintro _ w1 ⟨rfl, hm1⟩)
      have hown1 := ((hown.kept hm1.grownBy (Decidable.em _)).alloc (.cells #[.int .i64 o] 36)).drew
      have haL : v.ownBlock ≠ some w.heap.size := fun e => by have := hown.lt _ e; omega
      have haH : v.ownBlock ≠ some w1.heap.size := fun e => by have := (hown.kept hm1.grownBy (Decidable.em _)).lt _ e; omega
      have cL : w1.cell? ⟨w.heap.size, 0, none⟩ = some v := (hm1.cell hLs (fun h => h)).trans hL0
      have fL : w1.frozen? ⟨w.heap.size, 0, none⟩ = false := (hm1.frozen hLs (fun h => h)).trans fL0
      have hs1 := hm1.size
      have f0L : (w1.alloc (.cells #[.int .i64 o] 36)).drew.frozen? ⟨w.heap.size, 0, none⟩ = false := (World.frozen?_alloc_past _ _ _ (by omega)).trans fL
      have F0L := Lib.hid f0L
      have CL1 := Lib.hid (show (w1.alloc (.cells #[.int .i64 o] 36)).drew.cell? ⟨w.heap.size, 0, none⟩ = some v from (World.cell?_alloc_past _ _ _ (by omega)).trans cL)
      clear f0L
      have HOWN := Lib.hid hown1
      clear hown1
      have hL1 : w.heap.size < w1.heap.size := by omega
      have HP1 : Hid (w.heap.size < (w1.alloc (.cells #[.int .i64 o] 36)).drew.heap.size) := by show _ < (w1.alloc _).heap.size; rw [World.size_alloc]; omega
      refine wp_region_noPanic ?_
      go_region_law
        (first
          | (go_simp; go_at_call 14; (refine (coord_at2 o (fr + k) _ _ (by simp) h2 (by have := HF.out; omega)).mono ?_; rintro _ w2 ⟨g, rfl, hg2, hb2, hm2⟩; have hs2 : w1.heap.size + 1 ≤ w2.heap.size := (by simpa using hm2.size); have hp2 : w.heap.size < w2.heap.size := (by omega); have cL2 : w2.cell? ⟨w.heap.size, 0, none⟩ = some v := (hm2.cell HP1.out (fun h => h)).trans CL1.out))
          | ((refine step_append_lies _ (by rfl) _ _ _ (by rfl) (w.heap.size + 2) 26 i0 _ 1 24 Tryd.underlying23 HI.out.1 HI.out.2.1 HI.out.2.2.1 HI.out.2.2.2 rfl (by omega) v k (gs.map fun g => .slice (some ⟨g, 0, none⟩) 2 2) (by rfl) ((HOWN.out.kept hm2.grownBy (Decidable.em _)).alloc _) ⟨w2.heap.size, 0, none⟩ 1 1 [.slice (some ⟨g, 0, none⟩) 2 2] (by rfl) (by rfl) (World.news_of_block (cs := #[.slice (some ⟨g, 0, none⟩) 2 2]) (t := 26) (fr := (0, 0)) (heap_alloc_new w2 _)) (by simp [Value.oneCell']) (by omega) (by unfold maxLen; omega) (by omega) (by have := hm2.size; simp at this ⊢ <;> omega) (w2.heap.size + 1) (by simp) ?_; intro gg cap w3 hown3 hgrow hat hlt3; have cL3 : w3.cell? ⟨w.heap.size, 0, none⟩ = some v := (hgrow.cell_far _ (by rw [World.size_alloc]; exact Nat.lt_succ_of_lt hp2) (Ne.symm haL)).trans ((World.cell?_alloc_past _ _ _ hp2).trans cL2); have fz3 : w3.frozen? ⟨w.heap.size, 0, none⟩ = false := (hgrow.frozen_far _ (by rw [World.size_alloc]; exact Nat.lt_succ_of_lt hp2) (Ne.symm haL)).trans ((World.frozen?_alloc_past _ _ _ hp2).trans ((hm2.frozen HP1.out (fun h => h)).trans F0L.out)))))
      all_goals
        refine NoPanic.normal ?_
        go_wp2_with fail
        go_roundw
        case rel => exact ⟨k + 1, by omega, by go_num, _, _, walk_step HR hm1 hm2 hg2 hb2 hgrow hown3⟩
        case measure => simp [intOf]; omega
    · obtain rfl : k = n := by omega
      obtain ⟨b, cap, rfl, hb, hbl⟩ := hown.form (by omega)
      go_wp2_with fail
      refine leaves_cons (f := 12) (args := #[.pointer (some ⟨w.heap.size, 0, none⟩), .pointer (some ⟨w.heap.size + 1, 0, none⟩)]) (by simp) (by simp [go_sem]) ?_
      refine (catch_idle ⟨w.heap.size, 0, none⟩ ⟨w.heap.size + 1, 0, none⟩ _).mono ?_
      rintro e u' w'' ⟨rfl, rfl, rfl⟩
      have hL' := ((hL.set 0 (.slice (some ⟨b, 0, none⟩) k cap)).other (a := ⟨w.heap.size + 1, 0, none⟩) (.bool true) (by simp)).at (i := 0) rfl
      have hO' := ((hO.other (a := ⟨w.heap.size, 0, none⟩) (.slice (some ⟨b, 0, none⟩) k cap) (by simp)).set 0 (.bool true)).at (i := 0) rfl
      have hfin : Walked 2 (places 2 o fr k) w (.returned (.tuple #[.slice (some ⟨b, 0, none⟩) k cap, .bool true])) ((wr.setCell ⟨w.heap.size, 0, none⟩ (.slice (some ⟨b, 0, none⟩) k cap)).setCell ⟨w.heap.size + 1, 0, none⟩ (.bool true)) := by
        have hk : ∀ k', w.heap.size + 2 ≤ k' → k' < wr.heap.size → ((wr.setCell ⟨w.heap.size, 0, none⟩ (.slice (some ⟨b, 0, none⟩) k cap)).setCell ⟨w.heap.size + 1, 0, none⟩ (.bool true)).heap[k']? = wr.heap[k']? := fun k' h1 _ => by
          rw [Below.heap_setCell _ _ _ _ (by show k' ≠ w.heap.size + 1; omega), Below.heap_setCell _ _ _ _ (by show k' ≠ w.heap.size; omega)]
        refine ⟨_, rfl, ⟨gs, ?_, ?_⟩, (hM.set (.inr (Nat.le_refl _)) _).set (.inr (Nat.le_succ _)) _⟩
        · have := hE.keep hk
          exact ⟨this.1, fun i g p hg hp => ⟨by have := (this.2 i g p hg hp).1; omega, (this.2 i g p hg hp).2⟩⟩
        · rw [places_len]
          obtain ⟨o1, o2⟩ := owns_keep hown hk
          refine ⟨o1, ?_⟩
          rcases o2 with o2 | ⟨g, cap, cur, e1, e2, e3⟩
          · exact .inl o2
          · exact .inr ⟨g, cap, cur, e1, by omega, e3⟩
      have HFIN := Lib.hid hfin
      clear hfin
      simp [Leaves, settle, results, Tryd.results8, go_sem, hL', hO']
      exact HFIN.out

theorem coord_at3 (o P : Nat) (A : Int) (w : World) (hA : A = P) (ho : o ≤ 20) (hP : P < 9223372036854775808) :
    Calls Tryd.prog 16 #[.agg #[.int .i64 o], .slice none 0 0, .int .i64 A] w (NewRow 3 (place 3 o P) w) := by
  subst hA
  refine (coord3 o P w ho hP).mono ?_
  rintro e w' ⟨g, rfl, h⟩
  exact ⟨g, by rw [place_len], h⟩

set_option maxRecDepth 100000 in
set_option maxHeartbeats 2000000 in
theorem hwalk3 (o fr n : Nat) (w : World) (h1 : 1 ≤ o) (h2 : o ≤ 20) (hn1 : 1 ≤ n) (hn : n ≤ 100000) (hf : fr + n ≤ 4611686018427387904) :
    Calls Tryd.prog 8 #[.int .i64 3, .int .i64 o, .int .i64 fr, .int .i64 n] w (Walked 3 (places 3 o fr n) w) := by
  have hmf : ∀ (fn : Fn) (first cap : Array Value) (w : World), (Instr.makeFunc fn first cap).run Tryd.prog w = .ok (.func fn first cap) w := fun _ _ _ _ => rfl
  have HF := Lib.hid hf
  have hfb : (fr : Int) + n ≤ 4611686018427387904 := by omega
  clear hf
  obtain ⟨i0, hi0, hz0, hz1, hz2⟩ := info_parts info_slice
  have HI := Lib.hid (And.intro hi0 (And.intro hz0 (And.intro hz1 hz2)))
  clear hi0 hz0 hz1 hz2
  go_enter_defers Tryd.func8, Tryd.ntmps8
  go_wp2_with fail
  go_loopw [10] (fun i wr => ∃ k : Nat, k ≤ n ∧ i = .int .i64 ((fr : Int) + k) ∧ ∃ v gs, WRel 3 o fr n k v gs w wr) (fun i _ => ((fr : Int) + n - intOf i).toNat)
  case atStart =>
    refine ⟨0, Nat.zero_le _, by simp, .slice none 0 0, [], ?_, ?_, Each.nil _ _ _, World.ownsRow_nil _ _ _ _, by simp, ?_⟩
    · exact (Blk.new' w #[.slice none 0 0] 23).alloc _
    · have := Blk.new' (w.alloc (.cells #[.slice none 0 0] 23)) #[.bool false] 4
      simp only [World.size_alloc] at this
      exact this
    · exact ((Mod.refl _ _).alloc _).alloc _
  case round =>
    obtain ⟨k, hk, rfl, v, gs, HR⟩ := hrel
    have hrel := HR
    obtain ⟨hL, hO, hE, hown, hsz, hM⟩ := hrel
    have hL0 := hL.at (i := 0) rfl
    have fL0 := hL.frozen 0
    have hO0 := hO.at (i := 0) rfl
    have fO0 := hO.frozen 0
    have hLs := hL.lt
    have hOs := hO.lt
    by_cases hlt : k < n
    · go_wp2_with (go_at_call 15; refine (new3 o _ h1 h2).mono ?_; rintro _ w1 ⟨rfl, hm1⟩)
      have hown1 := ((hown.kept hm1.grownBy (Decidable.em _)).alloc (.cells #[.int .i64 o] 42)).drew
      have haL : v.ownBlock ≠ some w.heap.size := fun e => by have := hown.lt _ e; omega
      have haH : v.ownBlock ≠ some w1.heap.size := fun e => by have := (hown.kept hm1.grownBy (Decidable.em _)).lt _ e; omega
      have cL : w1.cell? ⟨w.heap.size, 0, none⟩ = some v := (hm1.cell hLs (fun h => h)).trans hL0
      have fL : w1.frozen? ⟨w.heap.size, 0, none⟩ = false := (hm1.frozen hLs (fun h => h)).trans fL0
      have hs1 := hm1.size
      have f0L : (w1.alloc (.cells #[.int .i64 o] 42)).drew.frozen? ⟨w.heap.size, 0, none⟩ = false := (World.frozen?_alloc_past _ _ _ (by omega)).trans fL
      have F0L := Lib.hid f0L
      have CL1 := Lib.hid (show (w1.alloc (.cells #[.int .i64 o] 42)).drew.cell? ⟨w.heap.size, 0, none⟩ = some v from (World.cell?_alloc_past _ _ _ (by omega)).trans cL)
      clear f0L
      have HOWN := Lib.hid hown1
      clear hown1
      have hL1 : w.heap.size < w1.heap.size := by omega
      have HP1 : Hid (w.heap.size < (w1.alloc (.cells #[.int .i64 o] 42)).drew.heap.size) := by show _ < (w1.alloc _).heap.size; rw [World.size_alloc]; omega
      refine wp_region_noPanic ?_
      go_region_law
        (first
          | (go_simp; go_at_call 16; (refine (coord_at3 o (fr + k) _ _ (by simp) h2 (by have := HF.out; omega)).mono ?_; rintro _ w2 ⟨g, rfl, hg2, hb2, hm2⟩; have hs2 : w1.heap.size + 1 ≤ w2.heap.size := (by simpa using hm2.size); have hp2 : w.heap.size < w2.heap.size := (by omega); have cL2 : w2.cell? ⟨w.heap.size, 0, none⟩ = some v := (hm2.cell HP1.out (fun h => h)).trans CL1.out))
          | ((refine step_append_lies _ (by rfl) _ _ _ (by rfl) (w.heap.size + 2) 26 i0 _ 1 24 Tryd.underlying23 HI.out.1 HI.out.2.1 HI.out.2.2.1 HI.out.2.2.2 rfl (by omega) v k (gs.map fun g => .slice (some ⟨g, 0, none⟩) 3 3) (by rfl) ((HOWN.out.kept hm2.grownBy (Decidable.em _)).alloc _) ⟨w2.heap.size, 0, none⟩ 1 1 [.slice (some ⟨g, 0, none⟩) 3 3] (by rfl) (by rfl) (World.news_of_block (cs := #[.slice (some ⟨g, 0, none⟩) 3 3]) (t := 26) (fr := (0, 0)) (heap_alloc_new w2 _)) (by simp [Value.oneCell']) (by omega) (by unfold maxLen; omega) (by omega) (by have := hm2.size; simp at this ⊢ <;> omega) (w2.heap.size + 1) (by simp) ?_; intro gg cap w3 hown3 hgrow hat hlt3; have cL3 : w3.cell? ⟨w.heap.size, 0, none⟩ = some v := (hgrow.cell_far _ (by rw [World.size_alloc]; exact Nat.lt_succ_of_lt hp2) (Ne.symm haL)).trans ((World.cell?_alloc_past _ _ _ hp2).trans cL2); have fz3 : w3.frozen? ⟨w.heap.size, 0, none⟩ = false := (hgrow.frozen_far _ (by rw [World.size_alloc]; exact Nat.lt_succ_of_lt hp2) (Ne.symm haL)).trans ((World.frozen?_alloc_past _ _ _ hp2).trans ((hm2.frozen HP1.out (fun h => h)).trans F0L.out)))))
      all_goals
        refine NoPanic.normal ?_
        go_wp2_with fail
        go_roundw
        case rel => exact ⟨k + 1, by omega, by go_num, _, _, walk_step HR hm1 hm2 hg2 hb2 hgrow hown3⟩
        case measure => simp [intOf]; omega
    · obtain rfl : k = n := by omega
      obtain ⟨b, cap, rfl, hb, hbl⟩ := hown.form (by omega)
      go_wp2_with fail
      refine leaves_cons (f := 12) (args := #[.pointer (some ⟨w.heap.size, 0, none⟩), .pointer (some ⟨w.heap.size + 1, 0, none⟩)]) (by simp) (by simp [go_sem]) ?_
      refine (catch_idle ⟨w.heap.size, 0, none⟩ ⟨w.heap.size + 1, 0, none⟩ _).mono ?_
      rintro e u' w'' ⟨rfl, rfl, rfl⟩
      have hL' := ((hL.set 0 (.slice (some ⟨b, 0, none⟩) k cap)).other (a := ⟨w.heap.size + 1, 0, none⟩) (.bool true) (by simp)).at (i := 0) rfl
      have hO' := ((hO.other (a := ⟨w.heap.size, 0, none⟩) (.slice (some ⟨b, 0, none⟩) k cap) (by simp)).set 0 (.bool true)).at (i := 0) rfl
      have hfin : Walked 3 (places 3 o fr k) w (.returned (.tuple #[.slice (some ⟨b, 0, none⟩) k cap, .bool true])) ((wr.setCell ⟨w.heap.size, 0, none⟩ (.slice (some ⟨b, 0, none⟩) k cap)).setCell ⟨w.heap.size + 1, 0, none⟩ (.bool true)) := by
        have hk : ∀ k', w.heap.size + 2 ≤ k' → k' < wr.heap.size → ((wr.setCell ⟨w.heap.size, 0, none⟩ (.slice (some ⟨b, 0, none⟩) k cap)).setCell ⟨w.heap.size + 1, 0, none⟩ (.bool true)).heap[k']? = wr.heap[k']? := fun k' h1 _ => by
          rw [Below.heap_setCell _ _ _ _ (by show k' ≠ w.heap.size + 1; omega), Below.heap_setCell _ _ _ _ (by show k' ≠ w.heap.size; omega)]
        refine ⟨_, rfl, ⟨gs, ?_, ?_⟩, (hM.set (.inr (Nat.le_refl _)) _).set (.inr (Nat.le_succ _)) _⟩
        · have := hE.keep hk
          exact ⟨this.1, fun i g p hg hp => ⟨by have := (this.2 i g p hg hp).1; omega, (this.2 i g p hg hp).2⟩⟩
        · rw [places_len]
          obtain ⟨o1, o2⟩ := owns_keep hown hk
          refine ⟨o1, ?_⟩
          rcases o2 with o2 | ⟨g, cap, cur, e1, e2, e3⟩
          · exact .inl o2
          · exact .inr ⟨g, cap, cur, e1, by omega, e3⟩
      have HFIN := Lib.hid hfin
      clear hfin
      simp [Leaves, settle, results, Tryd.results8, go_sem, hL', hO']
      exact HFIN.out

theorem coord_at4 (o P : Nat) (A : Int) (w : World) (hA : A = P) (ho : o ≤ 15) (hP : P < 9223372036854775808) :
    Calls Tryd.prog 18 #[.agg #[.int .i64 o], .slice none 0 0, .int .i64 A] w (NewRow 4 (place 4 o P) w) := by
  subst hA
  refine (coord4 o P w ho hP).mono ?_
  rintro e w' ⟨g, rfl, h⟩
  exact ⟨g, by rw [place_len], h⟩

set_option maxRecDepth 100000 in
set_option maxHeartbeats 2000000 in
theorem hwalk4 (o fr n : Nat) (w : World) (h1 : 1 ≤ o) (h2 : o ≤ 15) (hn1 : 1 ≤ n) (hn : n ≤ 100000) (hf : fr + n ≤ 4611686018427387904) :
    Calls Tryd.prog 8 #[.int .i64 4, .int .i64 o, .int .i64 fr, .int .i64 n] w (Walked 4 (places 4 o fr n) w) := by
  have hmf : ∀ (fn : Fn) (first cap : Array Value) (w : World), (Instr.makeFunc fn first cap).run Tryd.prog w = .ok (.func fn first cap) w := fun _ _ _ _ => rfl
  have HF := Lib.hid hf
  have hfb : (fr : Int) + n ≤ 4611686018427387904 := by omega
  clear hf
  obtain ⟨i0, hi0, hz0, hz1, hz2⟩ := info_parts info_slice
  have HI := Lib.hid (And.intro hi0 (And.intro hz0 (And.intro hz1 hz2)))
  clear hi0 hz0 hz1 hz2
  go_enter_defers Tryd.func8, Tryd.ntmps8
  go_wp2_with fail
  go_loopw [10] (fun i wr => ∃ k : Nat, k ≤ n ∧ i = .int .i64 ((fr : Int) + k) ∧ ∃ v gs, WRel 4 o fr n k v gs w wr) (fun i _ => ((fr : Int) + n - intOf i).toNat)
  case atStart =>
    refine ⟨0, Nat.zero_le _, by simp, .slice none 0 0, [], ?_, ?_, Each.nil _ _ _, World.ownsRow_nil _ _ _ _, by simp, ?_⟩
    · exact (Blk.new' w #[.slice none 0 0] 23).alloc _
    · have := Blk.new' (w.alloc (.cells #[.slice none 0 0] 23)) #[.bool false] 4
      simp only [World.size_alloc] at this
      exact this
    · exact ((Mod.refl _ _).alloc _).alloc _
  case round =>
    obtain ⟨k, hk, rfl, v, gs, HR⟩ := hrel
    have hrel := HR
    obtain ⟨hL, hO, hE, hown, hsz, hM⟩ := hrel
    have hL0 := hL.at (i := 0) rfl
    have fL0 := hL.frozen 0
    have hO0 := hO.at (i := 0) rfl
    have fO0 := hO.frozen 0
    have hLs := hL.lt
    have hOs := hO.lt
    by_cases hlt : k < n
    · go_wp2_with (go_at_call 17; refine (new4 o _ h1 h2).mono ?_; rintro _ w1 ⟨rfl, hm1⟩)
      have hown1 := ((hown.kept hm1.grownBy (Decidable.em _)).alloc (.cells #[.int .i64 o] 45)).drew
      have haL : v.ownBlock ≠ some w.heap.size := fun e => by have := hown.lt _ e; omega
      have haH : v.ownBlock ≠ some w1.heap.size := fun e => by have := (hown.kept hm1.grownBy (Decidable.em _)).lt _ e; omega
      have cL : w1.cell? ⟨w.heap.size, 0, none⟩ = some v := (hm1.cell hLs (fun h => h)).trans hL0
      have fL : w1.frozen? ⟨w.heap.size, 0, none⟩ = false := (hm1.frozen hLs (fun h => h)).trans fL0
      have hs1 := hm1.size
      have f0L : (w1.alloc (.cells #[.int .i64 o] 45)).drew.frozen? ⟨w.heap.size, 0, none⟩ = false := (World.frozen?_alloc_past _ _ _ (by omega)).trans fL
      have F0L := Lib.hid f0L
      have CL1 := Lib.hid (show (w1.alloc (.cells #[.int .i64 o] 45)).drew.cell? ⟨w.heap.size, 0, none⟩ = some v from (World.cell?_alloc_past _ _ _ (by omega)).trans cL)
      clear f0L
      have HOWN := Lib.hid hown1
      clear hown1
      have hL1 : w.heap.size < w1.heap.size := by omega
      have HP1 : Hid (w.heap.size < (w1.alloc (.cells #[.int .i64 o] 45)).drew.heap.size) := by show _ < (w1.alloc _).heap.size; rw [World.size_alloc]; omega
      refine wp_region_noPanic ?_
      go_region_law
        (first
          | (go_simp; go_at_call 18; (refine (coord_at4 o (fr + k) _ _ (by simp) h2 (by have := HF.out; omega)).mono ?_; rintro _ w2 ⟨g, rfl, hg2, hb2, hm2⟩; have hs2 : w1.heap.size + 1 ≤ w2.heap.size := (by simpa using hm2.size); have hp2 : w.heap.size < w2.heap.size := (by omega); have cL2 : w2.cell? ⟨w.heap.size, 0, none⟩ = some v := (hm2.cell HP1.out (fun h => h)).trans CL1.out))
          | ((refine step_append_lies _ (by rfl) _ _ _ (by rfl) (w.heap.size + 2) 26 i0 _ 1 24 Tryd.underlying23 HI.out.1 HI.out.2.1 HI.out.2.2.1 HI.out.2.2.2 rfl (by omega) v k (gs.map fun g => .slice (some ⟨g, 0, none⟩) 4 4) (by rfl) ((HOWN.out.kept hm2.grownBy (Decidable.em _)).alloc _) ⟨w2.heap.size, 0, none⟩ 1 1 [.slice (some ⟨g, 0, none⟩) 4 4] (by rfl) (by rfl) (World.news_of_block (cs := #[.slice (some ⟨g, 0, none⟩) 4 4]) (t := 26) (fr := (0, 0)) (heap_alloc_new w2 _)) (by simp [Value.oneCell']) (by omega) (by unfold maxLen; omega) (by omega) (by have := hm2.size; simp at this ⊢ <;> omega) (w2.heap.size + 1) (by simp) ?_; intro gg cap w3 hown3 hgrow hat hlt3; have cL3 : w3.cell? ⟨w.heap.size, 0, none⟩ = some v := (hgrow.cell_far _ (by rw [World.size_alloc]; exact Nat.lt_succ_of_lt hp2) (Ne.symm haL)).trans ((World.cell?_alloc_past _ _ _ hp2).trans cL2); have fz3 : w3.frozen? ⟨w.heap.size, 0, none⟩ = false := (hgrow.frozen_far _ (by rw [World.size_alloc]; exact Nat.lt_succ_of_lt hp2) (Ne.symm haL)).trans ((World.frozen?_alloc_past _ _ _ hp2).trans ((hm2.frozen HP1.out (fun h => h)).trans F0L.out)))))
      all_goals
        refine NoPanic.normal ?_
        go_wp2_with fail
        go_roundw
        case rel => exact ⟨k + 1, by omega, by go_num, _, _, walk_step HR hm1 hm2 hg2 hb2 hgrow hown3⟩
        case measure => simp [intOf]; omega
    · obtain rfl : k = n := by omega
      obtain ⟨b, cap, rfl, hb, hbl⟩ := hown.form (by omega)
      go_wp2_with fail
      refine leaves_cons (f := 12) (args := #[.pointer (some ⟨w.heap.size, 0, none⟩), .pointer (some ⟨w.heap.size + 1, 0, none⟩)]) (by simp) (by simp [go_sem]) ?_
      refine (catch_idle ⟨w.heap.size, 0, none⟩ ⟨w.heap.size + 1, 0, none⟩ _).mono ?_
      rintro e u' w'' ⟨rfl, rfl, rfl⟩
      have hL' := ((hL.set 0 (.slice (some ⟨b, 0, none⟩) k cap)).other (a := ⟨w.heap.size + 1, 0, none⟩) (.bool true) (by simp)).at (i := 0) rfl
      have hO' := ((hO.other (a := ⟨w.heap.size, 0, none⟩) (.slice (some ⟨b, 0, none⟩) k cap) (by simp)).set 0 (.bool true)).at (i := 0) rfl
      have hfin : Walked 4 (places 4 o fr k) w (.returned (.tuple #[.slice (some ⟨b, 0, none⟩) k cap, .bool true])) ((wr.setCell ⟨w.heap.size, 0, none⟩ (.slice (some ⟨b, 0, none⟩) k cap)).setCell ⟨w.heap.size + 1, 0, none⟩ (.bool true)) := by
        have hk : ∀ k', w.heap.size + 2 ≤ k' → k' < wr.heap.size → ((wr.setCell ⟨w.heap.size, 0, none⟩ (.slice (some ⟨b, 0, none⟩) k cap)).setCell ⟨w.heap.size + 1, 0, none⟩ (.bool true)).heap[k']? = wr.heap[k']? := fun k' h1 _ => by
          rw [Below.heap_setCell _ _ _ _ (by show k' ≠ w.heap.size + 1; omega), Below.heap_setCell _ _ _ _ (by show k' ≠ w.heap.size; omega)]
        refine ⟨_, rfl, ⟨gs, ?_, ?_⟩, (hM.set (.inr (Nat.le_refl _)) _).set (.inr (Nat.le_succ _)) _⟩
        · have := hE.keep hk
          exact ⟨this.1, fun i g p hg hp => ⟨by have := (this.2 i g p hg hp).1; omega, (this.2 i g p hg hp).2⟩⟩
        · rw [places_len]
          obtain ⟨o1, o2⟩ := owns_keep hown hk
          refine ⟨o1, ?_⟩
          rcases o2 with o2 | ⟨g, cap, cur, e1, e2, e3⟩
          · exact .inl o2
          · exact .inr ⟨g, cap, cur, e1, by omega, e3⟩
      have HFIN := Lib.hid hfin
      clear hfin
      simp [Leaves, settle, results, Tryd.results8, go_sem, hL', hO']
      exact HFIN.out
end Go.Proofs.YtidbohofjljkcaaDoor
