/- The walk of a k-d tree's keeper's Keep. Conditions: as it says. -/
import Derived.Test.YtncpdjlladlalaaKkKeep
import Derived.Test.YtncpdjlladlalaaKpPlain2
import Derived.Outline
namespace Go.Proofs.Ytncpdjlladlalaa
open Go.RowKit Lox
set_option linter.unusedVariables false
attribute [local go_sem] run_store_flt run_store_fn

/-- How a number stands to what the top holds. -/
theorem top_le {PT : TypeId} {v : Value} {b : Nat} {x : El} {d : Nat} (h : ElAt PT v b x) (hd : Lox.Fin d) : (FloatKind.f64.format.order d b == some .lt || FloatKind.f64.format.order d b == some .eq) = takesE x d := by
  cases x with
  | none => obtain ⟨_, rfl⟩ := h; rw [order_inf hd]; rfl
  | some m => obtain ⟨rfl, hm, _⟩ := h; rw [ord_le hd hm]; rfl

theorem mod_put' {S : Nat → Prop} {hb a b : Nat} {w w' : World} {x y : Value} (h : Mod S w w') (hs : S hb) : Mod S w ((w'.setCell ⟨hb, a, none⟩ x).setCell ⟨hb, b, none⟩ y) := by
  have h1 : Mod S w (w'.setCell ⟨hb, a, none⟩ x) := h.set (p := ⟨hb, a, none⟩) (.inl hs) x
  exact h1.set (p := ⟨hb, b, none⟩) (.inl hs) y

set_option maxRecDepth 100000 in
set_option maxHeartbeats 8000000 in
theorem kkeep_at (w : World) (kb hb len cap d : Nat) (A : Value) (els : List El) (h : KKS w kb hb len cap els) (h0 : 0 < len) (hl : cap ≤ 1099511627776) (hd : Lox.Fin d) :
    Calls Try.prog 47 #[.pointer (some ⟨kb, 0, none⟩), .agg #[.iface 71 A, .float .f64 d]] w fun e w' => e = .returned (.tuple #[]) ∧ KKS w' kb hb (keepK cap els d).length cap (keepK cap els d) ∧ Mod (fun k => k = hb ∨ k = kb) w w' := by
  have c0 := h.top.1
  have z0 := h.top.2
  obtain ⟨v, b, d0, d1, f0, f1, he⟩ := h.at h0
  obtain ⟨hne, hkb, hhb, hle, hlc⟩ := h.bds
  simp only [Nat.zero_mul, Nat.zero_add] at d0 d1 f0 f1
  have htk := top_le he hd
  obtain ⟨g, hg⟩ : ∃ g, g = takesE (at' els 0) d := ⟨_, rfl⟩
  rw [← hg] at htk
  have hone := elAt_one he
  have HK : Hid (KKS w kb hb len cap els ∧ g = takesE (at' els 0) d ∧ len = els.length) := ⟨h, hg, hle⟩
  have i1 : (0 : Int) < len := by omega
  clear h hg he hle
  cases g with
  | false =>
    go_enter Try.func47, Try.ntmps47
    go_wp2_with fail
    go_quiet (fail)
    go_wp2_with fail
    have hk : keepK cap els d = els := if_neg (by rw [← HK.out.2.1]; exact Bool.false_ne_true)
    rw [hk, ← HK.out.2.2]
    exact bodyPost_end (by simp [results, Try.results47, go_sem]) rfl ⟨rfl, (HK.out.1.alloc _).drewN _, ((Mod.refl _ _).alloc _).trans (mod_drewN _ _ _)⟩
  | true =>
    by_cases hfull : len = cap
    · have t1 : ((len : Int) == (cap : Int)) = true := by simp [hfull]
      have hk : keepK cap els d = (downF (els.set 0 (some d)) 0 len).1 := by
        unfold keepK
        rw [if_pos HK.out.2.1.symm, if_pos (by rw [← HK.out.2.2]; exact hfull), ← HK.out.2.2]
      have hlk : (keepK cap els d).length = len := by
        rw [hk, (downF_perm len (els.set 0 (some d)) 0 len (by omega) (by simp [← HK.out.2.2]) h0).2.1, List.length_set, ← HK.out.2.2]
      have HF := Lib.hid (And.intro hk hlk)
      clear hk hlk hfull
      go_enter Try.func47, Try.ntmps47
      go_wp2_with fail
      go_quiet (fail)
      go_wp2_with fail
      go_quiet (fail)
      go_wp2_with fail
      go_region
      all_goals
        go_wp2_with (go_at_call 65; refine (kfix_at _ kb hb len cap (els.set 0 (some d)) (((HK.out.1.alloc _).drewN _).put0 h0 ⟨rfl, hd, A, rfl⟩) h0 hl).mono ?_; rintro _ w2 ⟨rfl, hk2, hm2⟩; have HK2 := Lib.hid (And.intro hk2 hm2); clear hk2 hm2)
        rw [HF.out.2, HF.out.1]
        exact bodyPost_end (by simp [results, Try.results47, go_sem]) rfl ⟨rfl, HK2.out.1, (mod_put' (S := fun k => k = hb ∨ k = kb) (((Mod.refl _ _).alloc _).trans (mod_drewN _ _ _)) (.inl rfl)).trans (HK2.out.2.mono fun k _ h => .inl h)⟩
    · have t1 : ((len : Int) == (cap : Int)) = false := by
        have : (len : Int) ≠ cap := by omega
        simpa using this
      have hr : len < cap := by omega
      have hk : keepK cap els d = pushF els (some d) := by
        unfold keepK
        rw [if_pos HK.out.2.1.symm, if_neg (by rw [← HK.out.2.2]; exact hfull)]
      have hlk : (keepK cap els d).length = len + 1 := by
        unfold pushF at hk
        rw [hk, (upF_perm els.length (els ++ [some d]) (by simp)).2, List.length_append, ← HK.out.2.2]
        rfl
      have HF := Lib.hid (And.intro hk hlk)
      clear hk hlk hfull
      go_enter Try.func47, Try.ntmps47
      go_wp2_with fail
      go_quiet (fail)
      go_wp2_with fail
      go_quiet (fail)
      go_wp2_with (go_at_call 62; refine (kpush_at _ kb hb len cap d A els ((HK.out.1.alloc _).drewN _) hr hl hd).mono ?_; rintro _ w2 ⟨rfl, hk2, hm2⟩; have HK2 := Lib.hid (And.intro hk2 hm2); clear hk2 hm2)
      rw [HF.out.2, HF.out.1]
      exact bodyPost_end (by simp [results, Try.results47, go_sem]) rfl ⟨rfl, HK2.out.1, (((Mod.refl _ _).alloc _).trans (mod_drewN _ _ _)).trans HK2.out.2⟩
end Go.Proofs.Ytncpdjlladlalaa
