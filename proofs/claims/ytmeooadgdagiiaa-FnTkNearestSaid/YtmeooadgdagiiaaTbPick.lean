/- The walks of the k-d tree's list of points whose pivots are picked by numbers: Len, Index, Slice, Pivot. Conditions: as each says. -/
import Derived.Test.YtmeooadgdagiiaaTbPart
import Derived.Deep.QuietTactic
namespace Go.Proofs.Ytmeooadgdagiiaa
open Go.RowKit Lox
set_option linter.unusedVariables false
attribute [local go_sem] run_store_flt run_store_fn

/-- A list of points with picks. -/
abbrev picksV (S : Value) (lc : Nat) : Value := .agg #[S, .pointer (some ⟨lc, 0, none⟩)]

theorem kmeth_len (S : Value) (lc : Nat) (w : World) : (method 318 71 (picksV S lc) "Len").run Try.prog w = .ok (124, picksV S lc) w := by kernel_rfl
theorem kmeth_index (S : Value) (lc : Nat) (w : World) : (method 318 71 (picksV S lc) "Index").run Try.prog w = .ok (123, picksV S lc) w := by kernel_rfl
theorem kmeth_slice (S : Value) (lc : Nat) (w : World) : (method 318 71 (picksV S lc) "Slice").run Try.prog w = .ok (126, picksV S lc) w := by kernel_rfl
theorem kmeth_pivot (S : Value) (lc : Nat) (w : World) : (method 318 71 (picksV S lc) "Pivot").run Try.prog w = .ok (125, picksV S lc) w := by kernel_rfl
theorem kahead_slice (S : Value) (lc : Nat) (w : World) : (nilAhead 318 71 (picksV S lc) "Slice").run Try.prog w = .ok (some false) w := by kernel_rfl
theorem kahead_compare (A : Option Addr) (n c : Nat) (w : World) : (nilAhead 318 73 (.slice A n c) "Compare").run Try.prog w = .ok (some false) w := by kernel_rfl
theorem kmeth_dims (S : Value) (w : World) : (method 318 73 S "Dims").run Try.prog w = .ok (134, S) w := by kernel_rfl
theorem kmeth_compare (S : Value) (w : World) : (method 318 73 S "Compare").run Try.prog w = .ok (133, S) w := by kernel_rfl

set_option maxHeartbeats 1000000 in
theorem klen_at (w : World) (A : Option Addr) (n c lc : Nat) :
    Calls Try.prog 124 #[picksV (.slice A n c) lc] w fun e w' => e = .returned (.int .i64 n) ∧ Mod (fun _ => False) w w' := by
  go_enter Try.func124, Try.ntmps124
  go_wp2
  go_ret
  exact ⟨rfl, (Mod.refl _ w).alloc _⟩

set_option maxHeartbeats 1000000 in
theorem pdims_at (w : World) (A : Option Addr) (n c : Nat) :
    Calls Try.prog 134 #[.slice A n c] w fun e w' => e = .returned (.int .i64 n) ∧ w = w' := by
  go_enter Try.func134, Try.ntmps134
  go_wp2
  go_ret
  exact ⟨rfl, rfl⟩

set_option maxHeartbeats 1000000 in
theorem kindex_at (w : World) (pb o n c lc i k : Nat) (I : Int) (ps : List TP) (p : TP) (hI : I = i) (hk : p.xs.length = k) (h : TPs w pb ps) (hi : i < n) (hn : n ≤ 1099511627776) (hp : ps[o + i]? = some p) :
    Calls Try.prog 123 #[picksV (.slice (some ⟨pb, o, none⟩) n c) lc, .int .i64 I] w fun e w' => e = .returned (.iface 73 (.slice p.A k p.c)) ∧ Mod (fun _ => False) w w' := by
  subst hI hk
  have c1 : w.cell? ⟨pb, o + i, none⟩ = some p.v := TPs.at h hp
  have lt := TPs.lt h
  unfold TP.v at c1
  have i1 : (0 : Int) ≤ i := by omega
  have i2 : (i : Int) < n := by omega
  clear h hp
  go_enter Try.func123, Try.ntmps123
  go_wp2
  go_ret
  exact ⟨rfl, (Mod.refl _ w).alloc _⟩

set_option maxHeartbeats 1000000 in
theorem kslice_at (w : World) (A : Option Addr) (n c lc i j n' c' : Nat) (I J : Int) (hI : I = i) (hJ : J = j) (hn' : n' = j - i) (hc' : c' = c - i) (hi : i ≤ j) (hj : j ≤ n) (hn : n ≤ c) (hc : c ≤ 9223372036854775807) :
    Calls Try.prog 126 #[picksV (.slice A n c) lc, .int .i64 I, .int .i64 J] w fun e w' => (∃ A', e = .returned (.iface 71 (picksV (.slice A' n' c') lc)) ∧ (i < j → ∀ b o, A = some ⟨b, o, none⟩ → A' = some ⟨b, o + i, none⟩)) ∧ Mod (fun _ => False) w w' := by
  subst hI hJ hn' hc'
  go_enter Try.func126, Try.ntmps126
  go_wp2
  go_quiet (fail)
  go_wp2
  all_goals
    go_ret
    refine ⟨⟨_, rfl, fun hij b o e => ?_⟩, ⟨rfl, rfl, rfl, by simp [World.drewN], fun k hk _ => Below.heap_alloc _ _ _ hk⟩⟩
    subst e
    first | omega | (show some ((⟨b, o, none⟩ : Addr).add i) = _; rw [addr_lit])

/-- The picks' variable: what picks are left. -/
def PK (w : World) (lc pb : Nat) (ks : List Nat) : Prop :=
  ∃ (A : Option Addr) (c : Nat), Blk w lc 23 [.slice A ks.length c] ∧ Sl w A ks.length 1 (ints (ks.map Int.ofNat)) ∧ ks.length ≤ c ∧ c ≤ 9223372036854775807 ∧ (∀ k ∈ ks, k ≤ 9223372036854775807) ∧
    (0 < ks.length → ∀ b o, A = some ⟨b, o, none⟩ → b ≠ pb ∧ b ≠ lc)

theorem PK.mod {w w' : World} {lc pb : Nat} {ks : List Nat} {S : Nat → Prop} (h : PK w lc pb ks) (hm : Mod S w w') (hS : ∀ k, S k → k = pb) (hne : lc ≠ pb) : PK w' lc pb ks := by
  obtain ⟨A, c, hb, hs, h1, h2, h3, h4⟩ := h
  refine ⟨A, c, hb.mod hm (fun h => hne (hS _ h)), ⟨hs.1, fun h0 => ?_⟩, h1, h2, h3, h4⟩
  obtain ⟨b, o, e, hc⟩ := hs.2 h0
  exact ⟨b, o, e, fun j v hv => (hm.cell (lt_of_cell (hc j v hv)) (fun h => (h4 h0 b o e).1 (hS _ h))).trans (hc j v hv)⟩

theorem pick_mod (x n : Nat) (h0 : 0 < n) (hn : n ≤ 1099511627776) : (wrap64 ((x : Int) % (n : Int) + (n : Int))).tmod (n : Int) = ((x % n : Nat) : Int) := by
  have h1 : x % n < n := Nat.mod_lt _ h0
  have e1 : (x : Int) % (n : Int) = ((x % n : Nat) : Int) := by simp
  rw [e1]
  have e2 : wrap64 (((x % n : Nat) : Int) + (n : Int)) = ((x % n + n : Nat) : Int) := by unfold wrap64; omega
  rw [e2, ← Int.ofNat_tmod]
  simp

theorem pk_next {w w' : World} {lc pb x b o pc : Nat} {ks : List Nat} {A' : Option Addr} (hs : Sl w (some ⟨b, o, none⟩) (x :: ks).length 1 (ints ((x :: ks).map Int.ofNat))) (hW : Blk w' lc 23 [.slice A' ks.length (pc - 1)])
    (hm : Mod (fun k => k = pb ∨ k = lc) w w') (hA : 0 < ks.length → A' = some ⟨b, o + 1, none⟩) (h1 : ks.length + 1 ≤ pc) (h2 : pc ≤ 9223372036854775807) (h3 : ∀ k ∈ x :: ks, k ≤ 9223372036854775807)
    (h4 : ∀ b' o', some (⟨b, o, none⟩ : Addr) = some ⟨b', o', none⟩ → b' ≠ pb ∧ b' ≠ lc) : PK w' lc pb ks := by
  refine ⟨A', pc - 1, hW, ⟨by simp [ints], fun h0 => ?_⟩, by omega, by omega, fun k hk => h3 k (by simp [hk]), fun h0 b' o' e => ?_⟩
  · obtain ⟨b1, o1, e, hc⟩ := hs.2 (by simp)
    cases e
    obtain ⟨g1, g2⟩ := h4 b o rfl
    refine ⟨b, o + 1, hA h0, fun j v hv => ?_⟩
    have := hc (j + 1) v (by simpa [ints] using hv)
    rw [show o + 1 + j = o + (j + 1) by omega]
    exact (hm.cell (lt_of_cell this) (by rintro (h | h); exact g1 h; exact g2 h)).trans this
  · rw [hA h0] at e
    cases e
    exact h4 b o rfl

set_option maxRecDepth 100000 in
set_option maxHeartbeats 4000000 in
theorem kpivot_at (w : World) (dims d pb n c lc : Nat) (D : Int) (A l B : List TP) (ks : List Nat) (hD : D = d) (h : TPs w pb (A ++ (l ++ B))) (ho : ∀ p ∈ l, p.Okp w dims pb) (hk : PK w lc pb ks) (hne : lc ≠ pb) (hn : l.length = n) (hn0 : 0 < n) (hl : (A ++ (l ++ B)).length ≤ 1099511627776) (hc : n ≤ c) (hd : d < dims) (hdm : dims ≤ 1099511627776) (hf : ∀ p ∈ l, ∀ b o, p.A = some ⟨b, o, none⟩ → b ≠ lc) :
    Calls Try.prog 125 #[picksV (.slice (some ⟨pb, A.length, none⟩) n c) lc, .int .i64 D] w fun e w' => e = .returned (.int .i64 ((KB.part (leB d) l (KB.pick n ks).1).2 : Nat)) ∧ TPs w' pb (A ++ ((KB.part (leB d) l (KB.pick n ks).1).1 ++ B)) ∧ PK w' lc pb (KB.pick n ks).2 ∧ Mod (fun k => k = pb ∨ k = lc) w w' := by
  subst hD
  have hb0 : (0 : Int) < n := by omega
  have hb1 : (n : Int) ≤ 1099511627776 := by have h5 := hl; rw [List.length_append, List.length_append, hn] at h5; omega
  have HK := Lib.hid (And.intro h (And.intro ho (And.intro hn (And.intro hl hf))))
  clear h ho hn hl hf
  obtain ⟨PA, pc, hb, hs, h1, h2, h3, h4⟩ := hk
  have clc := hb.at (i := 0) rfl
  have flc := hb.frozen 0
  have llc := hb.lt
  have HP := Lib.hid (And.intro hb (And.intro hs h4))
  clear hb hs h4
  have PART : ∀ (w1 : World) (k : Nat) (K : Int), K = k → k < n → Mod (fun k => k = lc) w w1 →
      Calls Try.prog 128 #[.iface 209 (planeV d (.slice (some ⟨pb, A.length, none⟩) n c)), .int .i64 K] w1 fun e w' => e = .returned (.int .i64 ((KB.part (leB d) l k).2 : Nat)) ∧ TPs w' pb (A ++ ((KB.part (leB d) l k).1 ++ B)) ∧ Mod (fun k => k = pb) w1 w' := by
    intro w1 k K hK hk hm
    obtain ⟨q1, q2, q3, q4, q5⟩ := HK.out
    exact part_at w1 dims d pb n c k d K A l B rfl hK (TPs.mod q1 hm (fun h => hne h.symm)) (fun p hp => (q2 p hp).mod hm (q5 p hp)) q3 hk q4 hc hd hdm
  have HPART := Lib.hid PART
  clear PART
  cases ks with
  | nil =>
    have h1' := h1
    have h2' := h2
    clear h3 h1 h2
    have e0 : ([] : List Nat).length = 0 := rfl
    rw [e0] at clc
    go_enter Try.func125, Try.ntmps125
    go_wp2_with (go_at_call 128; refine (HPART.out _ (n / 2) _ (by omega) (by omega) ((Mod.refl _ _).alloc _)).mono ?_; rintro _ w1 ⟨rfl, ht, hm⟩; have HT := Lib.hid (And.intro ht hm); clear ht hm)
    go_ret
    have e1 : KB.pick n [] = (n / 2, []) := rfl
    rw [e1]
    have hm1 : Mod (fun k => k = pb) w w1 := (((Mod.refl _ _).alloc _).trans HT.out.2)
    exact ⟨rfl, HT.out.1, PK.mod ⟨PA, pc, HP.out.1, HP.out.2.1, h1', h2', (fun k hk => by cases hk), HP.out.2.2⟩ hm1 (fun _ h => h) hne, hm1.mono (fun _ _ h => .inl h)⟩
  | cons x ks =>
    obtain ⟨m, hm⟩ : ∃ m, m = ks.length := ⟨_, rfl⟩
    rw [List.length_cons, ← hm] at clc h1
    obtain ⟨b, o, e, hcell⟩ := HP.out.2.1.2 (by simp)
    have cx := hcell 0 (.int .i64 x) rfl
    rw [Nat.add_zero] at cx
    have hx := h3 x (by simp)
    have lcx := lt_of_cell cx
    have hmo : 0 < m + 1 := by omega
    subst e
    have HM := Lib.hid (And.intro hm h3)
    clear hm h3 hcell
    by_cases hpc : pc = 1
    · subst hpc
      go_enter Try.func125, Try.ntmps125
      go_wp2_with fail
      go_region
      rw [pick_mod x n (by omega) (by omega)]
      obtain rfl : m = 0 := by omega
      have hW := ((HP.out.1.set 0 (Value.slice (some { block := b, off := o }) 0 0)).alloc (Obj.cells #[Value.slice (some { block := pb, off := A.length }) n c, Value.pointer (some { block := lc, off := 0 })] 71)).drew
      have hM := (((Mod.refl (fun k => k = lc) w).set (p := ⟨lc, 0, none⟩) (Or.inl rfl) (Value.slice (some { block := b, off := o }) 0 0)).alloc (Obj.cells #[Value.slice (some { block := pb, off := A.length }) n c, Value.pointer (some { block := lc, off := 0 })] 71)).drew
      have HW := Lib.hid (And.intro hW hM)
      clear hW hM
      go_wp2_with (go_at_call 128; refine (HPART.out _ (x % n) _ rfl (Nat.mod_lt _ (by omega)) HW.out.2).mono ?_; rintro _ w1 ⟨rfl, ht, hm⟩; have HT := Lib.hid (And.intro ht hm); clear ht hm)
      go_ret
      have e1 : KB.pick n (x :: ks) = (x % n, ks) := rfl
      rw [e1]
      have hm1 : Mod (fun k => k = pb ∨ k = lc) w w1 := (HW.out.2.mono (fun _ _ h => .inr h)).trans (HT.out.2.mono (fun _ _ h => .inl h))
      have hk0 := HM.out.1
      refine ⟨rfl, HT.out.1, ?_, hm1⟩
      show PK w1 lc pb ks
      refine pk_next (pc := 1) (A' := some ⟨b, o, none⟩) HP.out.2.1 ?_ hm1 (fun h => by omega) (by omega) (by omega) HM.out.2 (fun b' o' e => HP.out.2.2 (by simp) b' o' e)
      rw [← hk0]
      exact HW.out.1.mod HT.out.2 hne
    · have p1 : (1 : Int) ≤ pc := by omega
      have p2 : (pc : Int) ≠ 1 := by omega
      go_enter Try.func125, Try.ntmps125
      go_wp2_with fail
      go_region
      rw [pick_mod x n (by omega) (by omega)]
      have hW := ((HP.out.1.set 0 (Value.slice (some { block := b, off := o + 1 }) m (pc - 1))).alloc (Obj.cells #[Value.slice (some { block := pb, off := A.length }) n c, Value.pointer (some { block := lc, off := 0 })] 71)).drew
      have hM := (((Mod.refl (fun k => k = lc) w).set (p := ⟨lc, 0, none⟩) (Or.inl rfl) (Value.slice (some { block := b, off := o + 1 }) m (pc - 1))).alloc (Obj.cells #[Value.slice (some { block := pb, off := A.length }) n c, Value.pointer (some { block := lc, off := 0 })] 71)).drew
      have HW := Lib.hid (And.intro hW hM)
      clear hW hM
      go_wp2_with (go_at_call 128; refine (HPART.out _ (x % n) _ rfl (Nat.mod_lt _ (by omega)) HW.out.2).mono ?_; rintro _ w1 ⟨rfl, ht, hm⟩; have HT := Lib.hid (And.intro ht hm); clear ht hm)
      go_ret
      have e1 : KB.pick n (x :: ks) = (x % n, ks) := rfl
      rw [e1]
      have hm1 : Mod (fun k => k = pb ∨ k = lc) w w1 := (HW.out.2.mono (fun _ _ h => .inr h)).trans (HT.out.2.mono (fun _ _ h => .inl h))
      have hk0 := HM.out.1
      refine ⟨rfl, HT.out.1, ?_, hm1⟩
      show PK w1 lc pb ks
      refine pk_next (pc := pc) (A' := some ⟨b, o + 1, none⟩) HP.out.2.1 ?_ hm1 (fun h => rfl) (by omega) (by omega) HM.out.2 (fun b' o' e => HP.out.2.2 (by simp) b' o' e)
      rw [← hk0]
      exact HW.out.1.mod HT.out.2 hne
end Go.Proofs.Ytmeooadgdagiiaa
