/- The walks of the library's Push over a keeper within a distance, and of its Keep. Conditions: as each says. -/
import Derived.Test.YtncpdjlladlalaaKdPush
import Derived.Test.YtncpdjlladlalaaKkKeep2
import Derived.Deep.QuietTactic
namespace Go.Proofs.Ytncpdjlladlalaa.D
open Go.RowKit Lox
set_option linter.unusedVariables false
variable {S : Nat}
attribute [local go_sem] run_store_flt run_store_fn

theorem kmeth_len (a : Addr) (w : World) : (method 261 94 (.pointer (some a)) "Len").run Try.prog w = .ok (101, .pointer (some a)) w := by kernel_rfl
theorem kmeth_push (a : Addr) (w : World) : (method 261 94 (.pointer (some a)) "Push").run Try.prog w = .ok (104, .pointer (some a)) w := by kernel_rfl

set_option maxRecDepth 100000 in
set_option maxHeartbeats 4000000 in
theorem kpush_at (w : World) (kb hb len cap d : Nat) (A : Value) (els : List El) (h : DKS S w kb hb len cap els) (hm : cap ≤ maxLen) (hl : len ≤ 4294967296) (hd : FinS S d) :
    Calls Try.prog 62 #[.iface 94 (.pointer (some ⟨kb, 0, none⟩)), .iface 88 (.agg #[.iface 71 A, .float .f64 d])] w (PushTold S kb hb (len + 1) (pushF els (some d)) w) := by
  have m1 := kmeth_len
  have m2 := kmeth_push
  have hle : els.length = len := h.bds.2.2.2.1.symm
  have hhb := h.bds.2.2.1
  have HK : Hid (DKS S w kb hb len cap els ∧ els.length = len) := ⟨h, hle⟩
  clear h hle
  go_enter Try.func62, Try.ntmps62
  go_wp2_with (first
    | (go_at_call 104; refine (kpushm_at _ kb hb len cap d A els HK.out.1 hm hl hd).mono ?_; rintro _ w1 ⟨hb1, cap1, rfl, hk1, hc1, hh1, hm1⟩; have HK1 := Lib.hid (And.intro hk1 (And.intro hm1 (And.intro hc1 hh1))); clear hk1 hm1 hc1 hh1)
    | (go_at_call 101; refine (klen_at _ kb hb1 (len + 1) cap1 _ HK1.out.1).mono ?_; rintro _ _ ⟨rfl, rfl⟩)
    | (go_at_call 72; refine (kup_at kb hb1 (len + 1) cap1 (by omega) _ len _ _ (by first | rfl | omega | (push_cast; omega)) HK1.out.1 (by omega)).mono ?_; rintro _ w2 ⟨rfl, hk2, hm2⟩; have HK2 := Lib.hid (And.intro hk2 hm2); clear hk2 hm2))
  refine bodyPost_end (by simp [results, Try.results62, go_sem]) rfl ⟨hb1, cap1, rfl, ?_, HK1.out.2.2.1, HK1.out.2.2.2, HK1.out.2.1.trans' HK2.out.2 (fun i hi h => .inl (by have := HK1.out.2.2.2; omega))⟩
  unfold pushF
  rw [HK.out.2]
  exact HK2.out.1

/-- One number more to a keeper within S. -/
def keepD (S : Nat) (l : List El) (d : Nat) : List El := if decide (fk d ≤ fk S) then pushF l (some d) else l

set_option maxRecDepth 100000 in
set_option maxHeartbeats 8000000 in
theorem kkeep_at (w : World) (kb hb len cap d : Nat) (A : Value) (els : List El) (h : DKS S w kb hb len cap els) (h0 : 0 < len) (hm : cap ≤ maxLen) (hl : len ≤ 4294967296) (hd : Lox.Fin d) (hS : Lox.Fin S) (ht : at' els 0 = none) :
    Calls Try.prog 51 #[.pointer (some ⟨kb, 0, none⟩), .agg #[.iface 71 A, .float .f64 d]] w (PushTold S kb hb (keepD S els d).length (keepD S els d) w) := by
  have c0 := h.top.1
  have z0 := h.top.2
  obtain ⟨v, b, d0, d1, f0, f1, he⟩ := h.at h0
  obtain ⟨hne, hkb, hhb, hle, hlc⟩ := h.bds
  simp only [Nat.zero_mul, Nat.zero_add] at d0 d1 f0 f1
  rw [ht] at he
  obtain ⟨rfl, rfl⟩ := he
  have htk := ord_le hd hS
  obtain ⟨g, hg⟩ : ∃ g, g = decide (fk d ≤ fk b) := ⟨_, rfl⟩
  rw [← hg] at htk
  have HK : Hid (DKS b w kb hb len cap els ∧ g = decide (fk d ≤ fk b) ∧ len = els.length) := ⟨h, hg, hle⟩
  have hgt : g = true → FinS b d := fun e => ⟨hd, by rw [ord_gt hd hS]; rw [e] at hg; have := of_decide_eq_true hg.symm; exact decide_eq_false (by omega)⟩
  have i1 : (0 : Int) < len := by omega
  clear h hg ht hle
  cases g with
  | false =>
    clear hgt
    go_enter Try.func51, Try.ntmps51
    go_wp2_with fail
    go_quiet (fail)
    go_wp2_with fail
    have hk : keepD b els d = els := by unfold keepD; rw [← HK.out.2.1]; rfl
    rw [hk, ← HK.out.2.2]
    exact bodyPost_end (by simp [results, Try.results51, go_sem]) rfl ⟨hb, cap, rfl, (HK.out.1.alloc _).drewN _, hm, .inl rfl, ((Mod.refl _ _).alloc _).trans (mod_drewN _ _ _)⟩
  | true =>
    have HG := Lib.hid (hgt rfl)
    clear hgt
    go_enter Try.func51, Try.ntmps51
    go_wp2_with fail
    go_quiet (fail)
    go_wp2_with (go_at_call 62; refine (kpush_at _ kb hb len cap d A els ((HK.out.1.alloc _).drewN _) hm hl HG.out).mono ?_; rintro _ w2 ⟨hb2, cap2, rfl, hk2, hc2, hh2, hm2⟩; have HK2 := Lib.hid (And.intro hk2 (And.intro hm2 (And.intro hc2 hh2))); clear hk2 hm2 hc2 hh2)
    have hk : keepD b els d = pushF els (some d) := by unfold keepD; rw [← HK.out.2.1]; rfl
    rw [hk, ← HK2.out.1.bds.2.2.2.1]
    refine bodyPost_end (by simp [results, Try.results51, go_sem]) rfl ⟨hb2, cap2, rfl, HK2.out.1, HK2.out.2.2.1, ?_, (((Mod.refl _ _).alloc _).trans (mod_drewN _ _ _)).trans HK2.out.2.1⟩
    rcases HK2.out.2.2.2 with h | h
    · exact .inl h
    · exact .inr (by simp at h; omega)
end Go.Proofs.Ytncpdjlladlalaa.D
