/- The walks of the library's Push and Fix over a keeper, and of its Keep. Conditions: as each says. -/
import Derived.Test.YtncpdjlladlalaaKvPush
import Derived.Deep.QuietTactic
namespace Go.Proofs.Ytncpdjlladlalaa.V
open Go.RowKit Lox
set_option linter.unusedVariables false
attribute [local go_sem] run_store_flt run_store_fn

theorem kmeth_len (a : Addr) (w : World) : (method 261 73 (.pointer (some a)) "Len").run Try.prog w = .ok (96, .pointer (some a)) w := by kernel_rfl
theorem kmeth_push (a : Addr) (w : World) : (method 261 73 (.pointer (some a)) "Push").run Try.prog w = .ok (99, .pointer (some a)) w := by kernel_rfl

set_option maxRecDepth 100000 in
set_option maxHeartbeats 4000000 in
theorem kpush_at (w : World) (kb hb len cap d : Nat) (A : Value) (els : List El) (h : KKS w kb hb len cap els) (hr : len < cap) (hl : cap ≤ 1099511627776) (hd : Lox.Fin d) :
    Calls Try.prog 62 #[.iface 73 (.pointer (some ⟨kb, 0, none⟩)), .iface 77 (.agg #[.iface 61 A, .float .f64 d])] w fun e w' => e = .returned (.tuple #[]) ∧ KKS w' kb hb (len + 1) cap (pushF els (some d)) ∧ Mod (fun k => k = hb ∨ k = kb) w w' := by
  have m1 := kmeth_len
  have m2 := kmeth_push
  have hle : els.length = len := h.bds.2.2.2.1.symm
  have HK : Hid (KKS w kb hb len cap els ∧ els.length = len) := ⟨h, hle⟩
  clear h hle
  go_enter Try.func62, Try.ntmps62
  go_wp2_with (first
    | (go_at_call 99; refine (kpushm_at _ kb hb len cap d A els HK.out.1 hr hl hd).mono ?_; rintro _ w1 ⟨rfl, hk1, hm1⟩; have HK1 := Lib.hid (And.intro hk1 hm1); clear hk1 hm1)
    | (go_at_call 96; refine (klen_at _ kb hb (len + 1) cap _ HK1.out.1).mono ?_; rintro _ _ ⟨rfl, rfl⟩)
    | (go_at_call 72; refine (kup_at kb hb (len + 1) cap (by omega) _ len _ _ (by first | rfl | omega | (push_cast; omega)) HK1.out.1 (by omega)).mono ?_; rintro _ w2 ⟨rfl, hk2, hm2⟩; have HK2 := Lib.hid (And.intro hk2 hm2); clear hk2 hm2))
  refine bodyPost_end (by simp [results, Try.results62, go_sem]) rfl ⟨rfl, ?_, HK1.out.2.trans (HK2.out.2.mono fun k _ h => .inl h)⟩
  unfold pushF
  rw [HK.out.2]
  exact HK2.out.1
end Go.Proofs.Ytncpdjlladlalaa.V
