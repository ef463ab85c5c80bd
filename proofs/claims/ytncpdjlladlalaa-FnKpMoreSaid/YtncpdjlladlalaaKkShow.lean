/- The walk of kheap: what a keeper's heap is shown as. Conditions: as it says. -/
import Derived.Test.YtncpdjlladlalaaKkNew
import Derived.Test.YtncpdjlladlalaaKpOwn
import Derived.Deep.AppendLies
namespace Go.Proofs.Ytncpdjlladlalaa
open Go.RowKit Lox
set_option linter.unusedVariables false
attribute [local go_sem] run_store_flt run_store_fn

set_option maxRecDepth 100000 in
set_option maxHeartbeats 4000000 in
theorem kshow_at (w : World) (kb hb len cap : Nat) (els : List El) (h : KKS w kb hb len cap els) (hl : cap ≤ 1099511627776) :
    Calls Try.prog 48 #[.slice (some ⟨hb, 0, none⟩) len cap] w (NewPt len (els.map shown) w) := by
  obtain ⟨i1, hi0, hz0, hz1, hz2⟩ := info_parts info_f64
  have HJ := Lib.hid (And.intro hi0 (And.intro hz0 (And.intro hz1 hz2)))
  clear hi0 hz0 hz1 hz2
  have hlc := h.bds.2.2.2.2
  have HK : Hid (KKS w kb hb len cap els ∧ len = els.length) := ⟨h, h.bds.2.2.2.1⟩
  clear h
  have heq : ∀ (A : Value) (w : World), (binOp .eql 69 (.iface 71 A) .nilIface).run Try.prog w = .ok (.bool false) w := fun _ _ => by kernel_rfl
  go_enter Try.func48, Try.ntmps48
  go_wp2_with fail
  go_loopw [3, 8] (fun v i wr => ∃ (v0 : Value) (k : Nat), v0 = v ∧ k ≤ len ∧ i = .int .i64 k ∧ Hid (ShowAt w.heap.size w wr v0 k ((els.take k).map shown))) (fun _ i _ => len - (intOf i).toNat)
  case atStart => exact ⟨_, 0, rfl, Nat.zero_le _, rfl, World.ownsRow_nil _ _ _ _, Mod.refl _ _, rfl⟩
  case round =>
    obtain ⟨v, k, rfl, hk, rfl, HR⟩ := hrel
    by_cases hlt : k < len
    · obtain ⟨u, b, d0, d1, _, _, he⟩ := (HK.out.1.mod HR.out.2.1 (fun h => h) (fun h => h)).at hlt
      have i1' : (0 : Int) ≤ k := by omega
      have i2 : (k : Int) < len := by omega
      have HS := Lib.hid (shown_take (els := els) (k := k) (by rw [← HK.out.2]; exact hlt))
      have hx : b = shown (at' els k) ∨ (u = .nilIface ∧ shown (at' els k) = 13830554455654793216) := by
        cases hh : at' els k with
        | none => rw [hh] at he; exact .inr ⟨he.1, rfl⟩
        | some d => rw [hh] at he; exact .inl he.1
      have hu : u = .nilIface ∧ shown (at' els k) = 13830554455654793216 ∨ ∃ A, u = .iface 71 A ∧ b = shown (at' els k) := by
        cases hh : at' els k with
        | none => rw [hh] at he; exact .inl ⟨he.1, rfl⟩
        | some d => rw [hh] at he; obtain ⟨rfl, _, A, rfl⟩ := he; exact .inr ⟨A, rfl, rfl⟩
      clear hx he
      rcases hu with ⟨rfl, hs⟩ | ⟨A, rfl, hs⟩
      · have HX := Lib.hid hs
        clear hs
        go_wp2_with (at_builtin; refine wpList_append_lies _ rfl _ _ _ rfl w.heap.size 28 i1 (.float .f64 0) 1 8 Try.underlying27 HJ.out.1 HJ.out.2.1 HJ.out.2.2.1 HJ.out.2.2.2 rfl (by decide) v k _ rfl ((HR.out.1.alloc _).alloc _) ⟨wr.heap.size + 1, 0, none⟩ 1 1 [.float .f64 13830554455654793216] rfl rfl (World.news_of_block (cs := #[.float .f64 13830554455654793216]) (t := 28) (fr := (0, 0)) (by have := heap_alloc_new (wr.alloc (.cells #[.nilIface, .float .f64 b] 88)) (.cells #[.float .f64 13830554455654793216] 28); rw [World.size_alloc] at this; exact this)) (by simp [Value.oneCell']) (by omega) (by unfold maxLen; omega) (by omega) (by have := HR.out.2.1.size; simp; omega) (wr.heap.size + 1 + 1) (by simp) ?_; intro gg gcap w3 hown3 hgrow hat hlt3)
        have HN := Lib.hid (HR.out.snoc hown3 hgrow)
        clear hown3 hgrow hat hlt3
        go_wp2_with fail
        go_roundw
        case rel => exact ⟨_, k + 1, rfl, by omega, by go_num, by have := HN.out; rw [HS.out, HX.out]; exact this⟩
        case measure => simp [intOf]; omega
      · have HX := Lib.hid hs
        clear hs
        go_wp2_with (at_builtin; refine wpList_append_lies _ rfl _ _ _ rfl w.heap.size 28 i1 (.float .f64 0) 1 8 Try.underlying27 HJ.out.1 HJ.out.2.1 HJ.out.2.2.1 HJ.out.2.2.2 rfl (by decide) v k _ rfl ((HR.out.1.alloc _).alloc _) ⟨wr.heap.size + 1, 0, none⟩ 1 1 [.float .f64 b] rfl rfl (World.news_of_block (cs := #[.float .f64 b]) (t := 28) (fr := (0, 0)) (by have := heap_alloc_new (wr.alloc (.cells #[.iface 71 A, .float .f64 b] 88)) (.cells #[.float .f64 b] 28); rw [World.size_alloc] at this; exact this)) (by simp [Value.oneCell']) (by omega) (by unfold maxLen; omega) (by omega) (by have := HR.out.2.1.size; simp; omega) (wr.heap.size + 1 + 1) (by simp) ?_; intro gg gcap w3 hown3 hgrow hat hlt3)
        have HN := Lib.hid (HR.out.snoc hown3 hgrow)
        clear hown3 hgrow hat hlt3
        go_wp2_with fail
        go_roundw
        case rel => exact ⟨_, k + 1, rfl, by omega, by go_num, by have := HN.out; rw [HS.out, ← HX.out]; exact this⟩
        case measure => simp [intOf]; omega
    · obtain rfl : k = len := by omega
      go_wp2_with fail
      go_ret
      have := HR.out.done
      rw [List.take_of_length_le (by rw [← HK.out.2]; exact Nat.le_refl _)] at this
      exact this
end Go.Proofs.Ytncpdjlladlalaa
