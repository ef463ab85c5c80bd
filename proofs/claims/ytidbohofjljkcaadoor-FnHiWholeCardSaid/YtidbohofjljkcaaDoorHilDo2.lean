/- The walks of the pairs of exchanges, the second one first. Conditions: the places are two different ones of the list, each time. -/
import Derived.Test.YtidbohofjljkcaaDoorHilDo
namespace Go.Proofs.YtidbohofjljkcaaDoor
open Go.RowKit Lox Hil
set_option linter.unusedVariables false
theorem meth_swap (x : Value) (w : World) : (method 188 53 x "pub-loxodrome/pub/gonum/spatial/curve.do").run Tryd.prog w = .ok (22, x) w := by kernel_rfl
theorem meth_flip (x : Value) (w : World) : (method 188 55 x "pub-loxodrome/pub/gonum/spatial/curve.do").run Tryd.prog w = .ok (23, x) w := by kernel_rfl

set_option maxHeartbeats 400000 in
theorem do2_ss (i j k l b len cap n : Nat) (N I J K L : Int) (xs : List Int) (w : World) (hI : I = i) (hJ : J = j) (hK : K = k) (hL : L = l) (hN : N = n) (hn : n ≤ 62) (hi : i < xs.length) (hj : j < xs.length) (hij : i ≠ j) (hk : k < xs.length) (hll : l < xs.length) (hkl : k ≠ l) (hl : xs.length = len) (hm : len ≤ 9223372036854775807)
    (hin : Ins n xs) (hb : Blk w b 3 (ints xs)) :
    Calls Tryd.prog 24 #[.bool true, .int .i64 N, .slice (some ⟨b, 0, none⟩) len cap, .agg #[.int .i64 I, .int .i64 J], .agg #[.int .i64 K, .int .i64 L]] w fun e w' => e = .returned (.tuple #[]) ∧
      Blk w' b 3 (ints (swp i j (swp k l xs))) ∧ Mod (· = b) w w' := by
  subst hI hJ hK hL hN
  have hlt := hb.lt
  have HL := Lib.hid hl
  clear hl
  have c0 := fun x w => meth_swap x w
  have c1 := fun x w => meth_swap x w
  go_enter Tryd.func24, Tryd.ntmps24
  go_wp2_with fail
  refine (swap_do k l b len cap n _ _ _ xs _ rfl rfl rfl hn hk hll hkl HL.out hm hin ((hb.alloc _).alloc _)).mono ?_
  rintro e w1 ⟨rfl, hb1, hm1⟩
  have hA : Blk w1 w.heap.size 53 [.int .i64 i, .int .i64 j] := ((Blk.new' w #[.int .i64 i, .int .i64 j] 53).alloc _).mod hm1 (by omega)
  have a0 := hA.at (i := 0) rfl
  have a1 := hA.at (i := 1) rfl
  go_wp2_with fail
  refine (swap_do i j b len cap n _ _ _ (swp k l xs) _ rfl rfl rfl hn (by rw [len_swp]; exact hi) (by rw [len_swp]; exact hj) hij (by rw [len_swp]; exact HL.out) hm (hin.swp hk hll) hb1).mono ?_
  rintro e w2 ⟨rfl, hb2, hm2⟩
  go_wp2_with fail
  go_end0
  refine ⟨rfl, hb2, ?_⟩
  exact (((Mod.refl _ _).alloc _).alloc _).trans (hm1.trans hm2)

set_option maxHeartbeats 400000 in
theorem do2_ff (i j k l b len cap n : Nat) (N I J K L : Int) (xs : List Int) (w : World) (hI : I = i) (hJ : J = j) (hK : K = k) (hL : L = l) (hN : N = n) (hn : n ≤ 62) (hi : i < xs.length) (hj : j < xs.length) (hij : i ≠ j) (hk : k < xs.length) (hll : l < xs.length) (hkl : k ≠ l) (hl : xs.length = len) (hm : len ≤ 9223372036854775807)
    (hin : Ins n xs) (hb : Blk w b 3 (ints xs)) :
    Calls Tryd.prog 26 #[.bool true, .int .i64 N, .slice (some ⟨b, 0, none⟩) len cap, .agg #[.int .i64 I, .int .i64 J], .agg #[.int .i64 K, .int .i64 L]] w fun e w' => e = .returned (.tuple #[]) ∧
      Blk w' b 3 (ints (flp n i j (flp n k l xs))) ∧ Mod (· = b) w w' := by
  subst hI hJ hK hL hN
  have hlt := hb.lt
  have HL := Lib.hid hl
  clear hl
  have c0 := fun x w => meth_flip x w
  have c1 := fun x w => meth_flip x w
  go_enter Tryd.func26, Tryd.ntmps26
  go_wp2_with fail
  refine (flip_do k l b len cap n _ _ _ xs _ rfl rfl rfl hn hk hll hkl HL.out hm hin ((hb.alloc _).alloc _)).mono ?_
  rintro e w1 ⟨rfl, hb1, hm1⟩
  have hA : Blk w1 w.heap.size 55 [.int .i64 i, .int .i64 j] := ((Blk.new' w #[.int .i64 i, .int .i64 j] 55).alloc _).mod hm1 (by omega)
  have a0 := hA.at (i := 0) rfl
  have a1 := hA.at (i := 1) rfl
  go_wp2_with fail
  refine (flip_do i j b len cap n _ _ _ (flp n k l xs) _ rfl rfl rfl hn (by rw [len_flp]; exact hi) (by rw [len_flp]; exact hj) hij (by rw [len_flp]; exact HL.out) hm (hin.flp hk hll) hb1).mono ?_
  rintro e w2 ⟨rfl, hb2, hm2⟩
  go_wp2_with fail
  go_end0
  refine ⟨rfl, hb2, ?_⟩
  exact (((Mod.refl _ _).alloc _).alloc _).trans (hm1.trans hm2)

set_option maxHeartbeats 400000 in
theorem do2_fs (i j k l b len cap n : Nat) (N I J K L : Int) (xs : List Int) (w : World) (hI : I = i) (hJ : J = j) (hK : K = k) (hL : L = l) (hN : N = n) (hn : n ≤ 62) (hi : i < xs.length) (hj : j < xs.length) (hij : i ≠ j) (hk : k < xs.length) (hll : l < xs.length) (hkl : k ≠ l) (hl : xs.length = len) (hm : len ≤ 9223372036854775807)
    (hin : Ins n xs) (hb : Blk w b 3 (ints xs)) :
    Calls Tryd.prog 27 #[.bool true, .int .i64 N, .slice (some ⟨b, 0, none⟩) len cap, .agg #[.int .i64 I, .int .i64 J], .agg #[.int .i64 K, .int .i64 L]] w fun e w' => e = .returned (.tuple #[]) ∧
      Blk w' b 3 (ints (flp n i j (swp k l xs))) ∧ Mod (· = b) w w' := by
  subst hI hJ hK hL hN
  have hlt := hb.lt
  have HL := Lib.hid hl
  clear hl
  have c0 := fun x w => meth_flip x w
  have c1 := fun x w => meth_swap x w
  go_enter Tryd.func27, Tryd.ntmps27
  go_wp2_with fail
  refine (swap_do k l b len cap n _ _ _ xs _ rfl rfl rfl hn hk hll hkl HL.out hm hin ((hb.alloc _).alloc _)).mono ?_
  rintro e w1 ⟨rfl, hb1, hm1⟩
  have hA : Blk w1 w.heap.size 55 [.int .i64 i, .int .i64 j] := ((Blk.new' w #[.int .i64 i, .int .i64 j] 55).alloc _).mod hm1 (by omega)
  have a0 := hA.at (i := 0) rfl
  have a1 := hA.at (i := 1) rfl
  go_wp2_with fail
  refine (flip_do i j b len cap n _ _ _ (swp k l xs) _ rfl rfl rfl hn (by rw [len_swp]; exact hi) (by rw [len_swp]; exact hj) hij (by rw [len_swp]; exact HL.out) hm (hin.swp hk hll) hb1).mono ?_
  rintro e w2 ⟨rfl, hb2, hm2⟩
  go_wp2_with fail
  go_end0
  refine ⟨rfl, hb2, ?_⟩
  exact (((Mod.refl _ _).alloc _).alloc _).trans (hm1.trans hm2)
end Go.Proofs.YtidbohofjljkcaaDoor
