/- The walks of a keeper's Pop and of the library's Pop over it. Conditions: as each says. -/
import Derived.Test.YtncpdjlladlalaaKvDown
import Derived.Deep.QuietTactic
import Derived.BigRegion
namespace Go.Proofs.Ytncpdjlladlalaa.V
open Go.RowKit Lox
set_option linter.unusedVariables false
attribute [local go_sem] run_store_flt run_store_fn

/-- The last element is dropped. -/
theorem ks_pop {NK CD PT : TypeId} {w : World} {kb hb len cap : Nat} {els : List El} (h : KS NK CD PT w kb hb len cap els) (h0 : 0 < len) :
    KS NK CD PT (w.setCell ⟨kb, 0, none⟩ (.slice (some ⟨hb, 0, none⟩) (len - 1) cap)) kb hb (len - 1) cap (els.take (len - 1)) := by
  obtain ⟨vs, sp, b1, b2, hsp, hl, hc, hp, hne⟩ := h
  have hvl : vs.length = els.length := hp.1
  refine ⟨vs.take (len - 1), flat (vs.drop (len - 1)) ++ sp, b1.set 0 _, ?_, ?_, by simp; omega, by omega, hp.take _, hne⟩
  · have h3 := b2.other (a := ⟨kb, 0, none⟩) (.slice (some ⟨hb, 0, none⟩) (len - 1) cap) hne
    rw [← List.append_assoc, ← flat_append, List.take_append_drop]
    exact h3
  · rw [List.length_append, flat_length, List.length_drop]
    omega

attribute [local go_sem] undef in
set_option maxHeartbeats 4000000 in
theorem kself_at (w : World) (kb hb len cap : Nat) (els : List El) (i : Nat) (I J : Int) (hI : I = i) (hJ : J = i) (h : KKS w kb hb len cap els) (hi : i < len) (hl : len ≤ 1099511627776) :
    Calls Try.prog 100 #[.pointer (some ⟨kb, 0, none⟩), .int .i64 I, .int .i64 J] w fun e w' => e = .returned (.tuple #[]) ∧ KKS w' kb hb len cap (swapE els i i) ∧ Mod (fun k => k = hb) w w' := by
  subst hI hJ
  have c0 := h.top.1
  obtain ⟨v, b, d0, d1, z0, z1, he⟩ := h.at hi
  have i1 : (0 : Int) ≤ i := by omega
  have i2 : (i : Int) < len := by omega
  have HH := Lib.hid (And.intro h he)
  have sv : ∀ (w : World) (a : Addr) (m : Mode), (store a v m).run Try.prog w = stored Try.prog w a v m := fun w a m => run_store _ w a v m (elAt_one he)
  clear h he
  go_enter Try.func100, Try.ntmps100
  go_wp2
  go_region
  all_goals
    have hK : KKS (((((w.setCell ⟨hb, i * 2, none⟩ v).setCell ⟨hb, i * 2 + 1, none⟩ (.float .f64 b)).setCell ⟨hb, i * 2, none⟩ v).setCell ⟨hb, i * 2 + 1, none⟩ (.float .f64 b)).drew) kb hb len cap (swapE els i i) := ((HH.out.1.put hi HH.out.2).put hi HH.out.2).drew
    have hM := ((mod_put (mod_put (Mod.refl (fun k => k = hb) w) (a := i * 2) (b := i * 2 + 1) (x := v) (y := .float .f64 b)) (a := i * 2) (b := i * 2 + 1) (x := v) (y := .float .f64 b))).drew
    refine bodyPost_end (by simp [results, Try.results100, go_sem]) rfl ⟨rfl, hK, hM⟩

/-- What a Pop tells. -/
def PopTold (kb hb len cap : Nat) (els : List El) (w : World) (e : Ending) (w' : World) : Prop :=
  (∃ v, e = .returned v) ∧ KKS w' kb hb len cap els ∧ Mod (fun k => k = hb ∨ k = kb) w w'

attribute [local go_sem] undef in
set_option maxHeartbeats 4000000 in
theorem kpopm_at (w : World) (kb hb len cap : Nat) (els : List El) (h : KKS w kb hb len cap els) (h0 : 0 < len) (hl : cap ≤ 1099511627776) :
    Calls Try.prog 98 #[.pointer (some ⟨kb, 0, none⟩)] w (PopTold kb hb (len - 1) cap (els.take (len - 1)) w) := by
  have c0 := h.top.1
  have z0 := h.top.2
  obtain ⟨q, rfl⟩ : ∃ q, len = q + 1 := ⟨len - 1, by omega⟩
  obtain ⟨v, b, d0, d1, f0, f1, he⟩ := h.at (i := q) (by omega)
  have hlc := h.bds.2.2.2.2
  have hK := (ks_pop h h0)
  have hM : Mod (fun k => k = hb ∨ k = kb) w (w.setCell ⟨kb, 0, none⟩ (.slice (some ⟨hb, 0, none⟩) (q + 1 - 1) cap)) := (Mod.refl _ w).set (p := ⟨kb, 0, none⟩) (.inl (.inr rfl)) _
  rw [Nat.add_sub_cancel] at hK hM ⊢
  have HH := Lib.hid (And.intro hK hM)
  have i1 : (0 : Int) ≤ q := by omega
  clear h he hK hM
  go_enter Try.func98, Try.ntmps98
  go_wp2
  go_region
  all_goals
    go_wp2
    go_ret
    exact ⟨⟨_, rfl⟩, HH.out.1.drew, HH.out.2.drew⟩

theorem kmeth_popm (a : Addr) (w : World) : (method 261 73 (.pointer (some a)) "Pop").run Try.prog w = .ok (98, .pointer (some a)) w := by kernel_rfl
theorem kmeth_plen (a : Addr) (w : World) : (method 261 73 (.pointer (some a)) "Len").run Try.prog w = .ok (96, .pointer (some a)) w := by kernel_rfl

set_option maxRecDepth 100000 in
set_option maxHeartbeats 4000000 in
theorem kpop_at (w : World) (kb hb len cap : Nat) (els : List El) (h : KKS w kb hb len cap els) (h0 : 0 < len) (hl : cap ≤ 1099511627776) :
    Calls Try.prog 61 #[.iface 73 (.pointer (some ⟨kb, 0, none⟩))] w (PopTold kb hb (len - 1) cap (popF els) w) := by
  have m1 := kmeth_plen
  have m2 := kmeth_popm
  have m3 := kmeth_swap
  have hlc := h.bds.2.2.2.2
  have hle : els.length = len := h.bds.2.2.2.1.symm
  have hpf : popF els = (downF (swapE els 0 (len - 1)) 0 (len - 1)).1.take (len - 1) := by unfold popF; rw [hle]
  rw [hpf]
  have HK := Lib.hid h
  clear h hpf hle
  by_cases h1 : len = 1
  · subst h1
    go_enter Try.func61, Try.ntmps61
    go_wp2_with (first
      | (go_at_call 96; refine (klen_at _ kb hb 1 cap _ HK.out).mono ?_; rintro _ _ ⟨rfl, rfl⟩)
      | (go_at_call 100; refine (kself_at _ kb hb 1 cap els 0 _ _ (by first | rfl | omega) (by first | rfl | omega) HK.out (by omega) (by omega)).mono ?_; rintro _ w1 ⟨rfl, hk1, hm1⟩; have HK1 := Lib.hid (And.intro hk1 hm1); clear hk1 hm1)
      | (go_at_call 71; refine (kdown_at kb hb 1 cap (by omega) _ 0 0 _ _ (swapE els 0 0) (by first | rfl | omega) (by first | rfl | omega) HK1.out.1 (by omega) (by omega)).mono ?_; rintro _ w2 ⟨rfl, hk2, hm2⟩; have HK2 := Lib.hid (And.intro hk2 hm2); clear hk2 hm2)
      | (go_at_call 98; refine (kpopm_at _ kb hb 1 cap _ HK2.out.1 (by omega) hl).mono ?_; rintro _ w3 ⟨⟨v3, rfl⟩, hk3, hm3⟩; have HK3 := Lib.hid (And.intro hk3 hm3); clear hk3 hm3))
    go_ret
    exact ⟨⟨_, rfl⟩, HK3.out.1, ((HK1.out.2.trans HK2.out.2).mono fun k _ h => .inl h).trans HK3.out.2⟩
  · obtain ⟨q, rfl⟩ : ∃ q, len = q + 1 := ⟨len - 1, by omega⟩
    rw [Nat.add_sub_cancel]
    go_enter Try.func61, Try.ntmps61
    go_wp2_with (first
      | (go_at_call 96; refine (klen_at _ kb hb (q + 1) cap _ HK.out).mono ?_; rintro _ _ ⟨rfl, rfl⟩)
      | (go_at_call 100; refine (kswap_at _ kb hb (q + 1) cap els 0 q _ _ (by first | rfl | omega) (by first | rfl | omega) HK.out (by omega) (by omega) (by omega) (by omega)).mono ?_; rintro _ w1 ⟨rfl, hk1, hm1⟩; have HK1 := Lib.hid (And.intro hk1 hm1); clear hk1 hm1)
      | (go_at_call 71; refine (kdown_at kb hb (q + 1) cap (by omega) _ 0 q _ _ (swapE els 0 q) (by first | rfl | omega) (by first | rfl | omega) HK1.out.1 (by omega) (by omega)).mono ?_; rintro _ w2 ⟨rfl, hk2, hm2⟩; have HK2 := Lib.hid (And.intro hk2 hm2); clear hk2 hm2)
      | (go_at_call 98; refine (kpopm_at _ kb hb (q + 1) cap _ HK2.out.1 (by omega) hl).mono ?_; rw [Nat.add_sub_cancel]; rintro _ w3 ⟨⟨v3, rfl⟩, hk3, hm3⟩; have HK3 := Lib.hid (And.intro hk3 hm3); clear hk3 hm3))
    go_ret
    exact ⟨⟨_, rfl⟩, HK3.out.1, ((HK1.out.2.trans HK2.out.2).mono fun k _ h => .inl h).trans HK3.out.2⟩

end Go.Proofs.Ytncpdjlladlalaa.V
