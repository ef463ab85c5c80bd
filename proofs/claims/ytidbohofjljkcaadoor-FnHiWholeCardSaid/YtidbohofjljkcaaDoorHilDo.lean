/- The walks of the exchanges of two coordinates: swap, flip, invert. Conditions: the two places are different ones of the list. -/
import Derived.Test.YtidbohofjljkcaaDoorRows
import Derived.Test.YtidbohofjljkcaaDoorHilDef
namespace Go.Proofs.YtidbohofjljkcaaDoor
open Go.RowKit Lox Hil

theorem at_ints {w : World} {b i : Nat} {T : TypeId} {xs : List Int} (h : Blk w b T (ints xs)) (hi : i < xs.length) : w.cell? ⟨b, i, none⟩ = some (.int .i64 (xs.getD i 0)) := by
  rw [h.cell]; simp [ints, hi]

set_option maxHeartbeats 1000000 in
theorem swap_do (i j b len cap n : Nat) (N I J : Int) (xs : List Int) (w : World) (hI : I = i) (hJ : J = j) (hN : N = n) (hn : n ≤ 62) (hi : i < xs.length) (hj : j < xs.length) (hij : i ≠ j) (hl : xs.length = len) (hm : len ≤ 9223372036854775807)
    (hin : Ins n xs) (hb : Blk w b 3 (ints xs)) :
    Calls Tryd.prog 22 #[.agg #[.int .i64 I, .int .i64 J], .int .i64 N, .slice (some ⟨b, 0, none⟩) len cap] w fun e w' => e = .returned (.tuple #[]) ∧
      Blk w' b 3 (ints (swp i j xs)) ∧ Mod (· = b) w w' := by
  subst hI hJ hl hN
  obtain ⟨W, hW⟩ : ∃ W : World, W = w.alloc (.cells #[.int .i64 i, .int .i64 j] 53) := ⟨_, rfl⟩
  have c0 : W.cell? ⟨w.heap.size, 0, none⟩ = some (.int .i64 i) := by rw [hW]; simp [go_sem]
  have c1 : W.cell? ⟨w.heap.size, 1, none⟩ = some (.int .i64 j) := by rw [hW]; simp [go_sem]
  have hB : Blk W b 3 (ints xs) := by rw [hW]; exact hb.alloc _
  have hM : Mod (· = b) w W := by rw [hW]; exact (Mod.refl _ _).alloc _
  have c2 := at_ints hB hi
  have c3 := at_ints hB hj
  have f2 := hB.frozen i
  have f3 := hB.frozen j
  have hlt := hb.lt
  have bi := hin.getD hi
  have bj := hin.getD hj
  obtain ⟨x, hx⟩ : ∃ x, x = xs.getD i 0 := ⟨_, rfl⟩
  obtain ⟨y, hy⟩ : ∃ y, y = xs.getD j 0 := ⟨_, rfl⟩
  have HS : Hid (swp i j xs = (xs.set i (y)).set j (x)) := by unfold swp; rw [hx, hy]; exact rfl
  rw [← hx] at c2 bi
  rw [← hy] at c3 bj
  have HX : Hid (bits .xor .i64 x (wrap64 (wrap64 (2 ^ n) - 1)) = inv n x) := xor_inv n x hn bi.1 bi.2
  have HY : Hid (bits .xor .i64 y (wrap64 (wrap64 (2 ^ n) - 1)) = inv n y) := xor_inv n y hn bj.1 bj.2
  clear hx hy bi bj hin hb
  go_enter Tryd.func22, Tryd.ntmps22
  go_wp2
  rw [← hW]
  have HW := Lib.hid hW
  clear hW
  go_region
  go_end0
  refine ⟨rfl, ?_, ?_⟩
  · rw [HS.out, ← ints_set, ← ints_set]
    exact ((hB.set i _).set j _).drew
  · exact ((hM.set (.inl rfl) _).set (.inl rfl) _).drew

set_option maxHeartbeats 1000000 in
theorem flip_do (i j b len cap n : Nat) (N I J : Int) (xs : List Int) (w : World) (hI : I = i) (hJ : J = j) (hN : N = n) (hn : n ≤ 62) (hi : i < xs.length) (hj : j < xs.length) (hij : i ≠ j) (hl : xs.length = len) (hm : len ≤ 9223372036854775807)
    (hin : Ins n xs) (hb : Blk w b 3 (ints xs)) :
    Calls Tryd.prog 23 #[.agg #[.int .i64 I, .int .i64 J], .int .i64 N, .slice (some ⟨b, 0, none⟩) len cap] w fun e w' => e = .returned (.tuple #[]) ∧
      Blk w' b 3 (ints (flp n i j xs)) ∧ Mod (· = b) w w' := by
  subst hI hJ hl hN
  obtain ⟨W, hW⟩ : ∃ W : World, W = w.alloc (.cells #[.int .i64 i, .int .i64 j] 55) := ⟨_, rfl⟩
  have c0 : W.cell? ⟨w.heap.size, 0, none⟩ = some (.int .i64 i) := by rw [hW]; simp [go_sem]
  have c1 : W.cell? ⟨w.heap.size, 1, none⟩ = some (.int .i64 j) := by rw [hW]; simp [go_sem]
  have hB : Blk W b 3 (ints xs) := by rw [hW]; exact hb.alloc _
  have hM : Mod (· = b) w W := by rw [hW]; exact (Mod.refl _ _).alloc _
  have c2 := at_ints hB hi
  have c3 := at_ints hB hj
  have f2 := hB.frozen i
  have f3 := hB.frozen j
  have hlt := hb.lt
  have bi := hin.getD hi
  have bj := hin.getD hj
  obtain ⟨x, hx⟩ : ∃ x, x = xs.getD i 0 := ⟨_, rfl⟩
  obtain ⟨y, hy⟩ : ∃ y, y = xs.getD j 0 := ⟨_, rfl⟩
  have HS : Hid (flp n i j xs = (xs.set i (inv n y)).set j (inv n x)) := by unfold flp; rw [hx, hy]; exact rfl
  rw [← hx] at c2 bi
  rw [← hy] at c3 bj
  have HX : Hid (bits .xor .i64 x (wrap64 (wrap64 (2 ^ n) - 1)) = inv n x) := xor_inv n x hn bi.1 bi.2
  have HY : Hid (bits .xor .i64 y (wrap64 (wrap64 (2 ^ n) - 1)) = inv n y) := xor_inv n y hn bj.1 bj.2
  clear hx hy bi bj hin hb
  go_enter Tryd.func23, Tryd.ntmps23
  go_wp2
  rw [← hW]
  have HW := Lib.hid hW
  clear hW
  go_region
  go_end0
  refine ⟨rfl, ?_, ?_⟩
  · rw [HS.out, ← ints_set, ← ints_set, ← HX.out, ← HY.out]
    exact ((hB.set i _).set j _).drew
  · exact ((hM.set (.inl rfl) _).set (.inl rfl) _).drew

set_option maxHeartbeats 1000000 in
theorem invert_do (i j b len cap n : Nat) (N I J : Int) (xs : List Int) (w : World) (hI : I = i) (hJ : J = j) (hN : N = n) (hn : n ≤ 62) (hi : i < xs.length) (hj : j < xs.length) (hij : i ≠ j) (hl : xs.length = len) (hm : len ≤ 9223372036854775807)
    (hin : Ins n xs) (hb : Blk w b 3 (ints xs)) :
    Calls Tryd.prog 25 #[.agg #[.int .i64 I, .int .i64 J], .int .i64 N, .slice (some ⟨b, 0, none⟩) len cap] w fun e w' => e = .returned (.tuple #[]) ∧
      Blk w' b 3 (ints (ivt n i j xs)) ∧ Mod (· = b) w w' := by
  subst hI hJ hl hN
  obtain ⟨W, hW⟩ : ∃ W : World, W = w.alloc (.cells #[.int .i64 i, .int .i64 j] 57) := ⟨_, rfl⟩
  have c0 : W.cell? ⟨w.heap.size, 0, none⟩ = some (.int .i64 i) := by rw [hW]; simp [go_sem]
  have c1 : W.cell? ⟨w.heap.size, 1, none⟩ = some (.int .i64 j) := by rw [hW]; simp [go_sem]
  have hB : Blk W b 3 (ints xs) := by rw [hW]; exact hb.alloc _
  have hM : Mod (· = b) w W := by rw [hW]; exact (Mod.refl _ _).alloc _
  have c2 := at_ints hB hi
  have c3 := at_ints hB hj
  have f2 := hB.frozen i
  have f3 := hB.frozen j
  have hlt := hb.lt
  have bi := hin.getD hi
  have bj := hin.getD hj
  obtain ⟨x, hx⟩ : ∃ x, x = xs.getD i 0 := ⟨_, rfl⟩
  obtain ⟨y, hy⟩ : ∃ y, y = xs.getD j 0 := ⟨_, rfl⟩
  have HS : Hid (ivt n i j xs = (xs.set i (inv n x)).set j (inv n y)) := by unfold ivt; rw [hx, hy]; exact rfl
  rw [← hx] at c2 bi
  rw [← hy] at c3 bj
  have HX : Hid (bits .xor .i64 x (wrap64 (wrap64 (2 ^ n) - 1)) = inv n x) := xor_inv n x hn bi.1 bi.2
  have HY : Hid (bits .xor .i64 y (wrap64 (wrap64 (2 ^ n) - 1)) = inv n y) := xor_inv n y hn bj.1 bj.2
  clear hx hy bi bj hin hb
  go_enter Tryd.func25, Tryd.ntmps25
  go_wp2
  rw [← hW]
  have HW := Lib.hid hW
  clear hW
  go_region
  go_end0
  refine ⟨rfl, ?_, ?_⟩
  · rw [HS.out, ← ints_set, ← ints_set, ← HX.out, ← HY.out]
    exact ((hB.set i _).set j _).drew
  · exact ((hM.set (.inl rfl) _).set (.inl rfl) _).drew
end Go.Proofs.YtidbohofjljkcaaDoor
