/- The walk of a k-d tree's keeper's Keep. Conditions: as it says. -/
import Derived.Test.YtncpdjlladlalaaKvKeep
import Derived.Test.YtncpdjlladlalaaKvPop
import Derived.Test.YtncpdjlladlalaaKpPlain2
import Derived.Outline
namespace Go.Proofs.Ytncpdjlladlalaa.V
open Go.RowKit Lox
set_option linter.unusedVariables false
attribute [local go_sem] run_store_flt run_store_fn

/-- How a number stands to what the top holds. -/
theorem top_le {PT : TypeId} {v : Value} {b : Nat} {x : El} {d : Nat} (h : ElAt PT v b x) (hd : Lox.Fin d) : (FloatKind.f64.format.order d b == some .lt || FloatKind.f64.format.order d b == some .eq) = takesE x d := by
  cases x with
  | none => obtain ⟨_, rfl⟩ := h; rw [order_inf hd]; rfl
  | some m => obtain ⟨rfl, hm, _⟩ := h; rw [ord_le hd hm]; rfl

theorem mod_put' {S : Nat → Prop} {hb a b : Nat} {w w' : World} {x y : Value} (h : Mod S w w') (hs : S hb) : Mod S w ((w'.setCell ⟨hb, a, none⟩ x).setCell ⟨hb, b, none⟩ y) := by
  have h1 : Mod S w (w'.setCell ⟨hb, a, none⟩ x) := h.set (p := ⟨hb, a, none⟩) (.inl hs) x
  exact h1.set (p := ⟨hb, b, none⟩) (.inl hs) y

theorem keep_box0 (w : World) (x y : Value) (e : TypeId) (n : Nat) : ((w.alloc (.cells #[x, y] e)).drewN n).cell? ⟨w.heap.size, 0, none⟩ = some x := (Blk.new w [x, y] e).at (i := 0) rfl
theorem keep_box1 (w : World) (x y : Value) (e : TypeId) (n : Nat) : ((w.alloc (.cells #[x, y] e)).drewN n).cell? ⟨w.heap.size, 1, none⟩ = some y := (Blk.new w [x, y] e).at (i := 1) rfl

set_option maxRecDepth 100000 in
set_option maxHeartbeats 8000000 in
theorem kkeep_at (w : World) (kb hb len cap d : Nat) (A : Value) (els : List El) (h : KKS w kb hb len cap els) (h0 : 0 < len) (hl : cap ≤ 1099511627776) (hd : Lox.Fin d) :
    Calls Try.prog 41 #[.pointer (some ⟨kb, 0, none⟩), .agg #[.iface 61 A, .float .f64 d]] w fun e w' => e = .returned (.tuple #[]) ∧ KKS w' kb hb (keepV cap els d).length cap (keepV cap els d) ∧ Mod (fun k => k = hb ∨ k = kb) w w' := by
  have c0 := h.top.1
  have z0 := h.top.2
  obtain ⟨v, b, d0, d1, f0, f1, he⟩ := h.at h0
  obtain ⟨hne, hkb, hhb, hle, hlc⟩ := h.bds
  simp only [Nat.zero_mul, Nat.zero_add] at d0 d1 f0 f1
  have htk := top_le he hd
  obtain ⟨g, hg⟩ : ∃ g, g = takesE (at' els 0) d := ⟨_, rfl⟩
  rw [← hg] at htk
  have hone := elAt_one he
  have HK : Hid (KKS w kb hb len cap els ∧ g = takesE (at' els 0) d ∧ len = els.length) := ⟨h, hg, hle⟩
  have i1 : (0 : Int) < len := by omega
  clear h hg he hle
  cases g with
  | false =>
    go_enter Try.func41, Try.ntmps41
    go_wp2_with fail
    go_quiet (fail)
    go_wp2_with fail
    have hk : keepV cap els d = els := if_neg (by rw [← HK.out.2.1]; exact Bool.false_ne_true)
    rw [hk, ← HK.out.2.2]
    exact bodyPost_end (by simp [results, Try.results41, go_sem]) rfl ⟨rfl, (HK.out.1.alloc _).drewN _, ((Mod.refl _ _).alloc _).trans (mod_drewN _ _ _)⟩
  | true =>
    by_cases hfull : len = cap
    · have t1 : ((len : Int) == (cap : Int)) = true := by simp [hfull]
      have hk : keepV cap els d = pushF (popF els) (some d) := by
        unfold keepV
        rw [if_pos HK.out.2.1.symm, if_pos (by rw [← HK.out.2.2]; exact hfull)]
      have hb1 : hb ≠ w.heap.size := by omega
      have kb1 : kb ≠ w.heap.size := by omega
      have HF := Lib.hid (And.intro hk (And.intro hb1 kb1))
      have hlt : len - 1 < cap := by omega
      clear hk hfull hb1 kb1
      go_enter Try.func41, Try.ntmps41
      go_wp2_with fail
      go_quiet (fail)
      go_wp2_with fail
      go_quiet (fail)
      go_wp2_with (first
        | (go_at_call 61; refine (kpop_at _ kb hb len cap els ((HK.out.1.alloc _).drewN _) h0 hl).mono ?_; rintro _ w2 ⟨⟨v2, rfl⟩, hk2, hm2⟩; have e0 := (hm2.cell (p := ⟨w.heap.size, 0, none⟩) (by simp) (fun hx => hx.elim (fun e => HF.out.2.1 e.symm) (fun e => HF.out.2.2 e.symm))).trans (keep_box0 w _ _ _ _); have e1 := (hm2.cell (p := ⟨w.heap.size, 1, none⟩) (by simp) (fun hx => hx.elim (fun e => HF.out.2.1 e.symm) (fun e => HF.out.2.2 e.symm))).trans (keep_box1 w _ _ _ _); have HK2 := Lib.hid (And.intro hk2 hm2); clear hk2 hm2)
        | (go_at_call 62; refine (kpush_at _ kb hb (len - 1) cap d A (popF els) HK2.out.1 hlt hl hd).mono ?_; rintro _ w3 ⟨rfl, hk3, hm3⟩; have HK3 := Lib.hid (And.intro hk3 hm3); clear hk3 hm3))
      rw [HF.out.1, ← HK3.out.1.bds.2.2.2.1]
      exact bodyPost_end (by simp [results, Try.results41, go_sem]) rfl ⟨rfl, HK3.out.1, ((((Mod.refl _ _).alloc _).trans (mod_drewN _ _ _)).trans HK2.out.2).trans HK3.out.2⟩
    · have t1 : ((len : Int) == (cap : Int)) = false := by
        have : (len : Int) ≠ cap := by omega
        simpa using this
      have hr : len < cap := by omega
      have hk : keepV cap els d = pushF els (some d) := by
        unfold keepV
        rw [if_pos HK.out.2.1.symm, if_neg (by rw [← HK.out.2.2]; exact hfull)]
      have hlk : (keepV cap els d).length = len + 1 := by
        unfold pushF at hk
        rw [hk, (upF_perm els.length (els ++ [some d]) (by simp)).2, List.length_append, ← HK.out.2.2]
        rfl
      have HF := Lib.hid (And.intro hk hlk)
      clear hk hlk hfull
      go_enter Try.func41, Try.ntmps41
      go_wp2_with fail
      go_quiet (fail)
      go_wp2_with fail
      go_quiet (fail)
      go_wp2_with (go_at_call 62; refine (kpush_at _ kb hb len cap d A els ((HK.out.1.alloc _).drewN _) hr hl hd).mono ?_; rintro _ w2 ⟨rfl, hk2, hm2⟩; have HK2 := Lib.hid (And.intro hk2 hm2); clear hk2 hm2)
      rw [HF.out.2, HF.out.1]
      exact bodyPost_end (by simp [results, Try.results41, go_sem]) rfl ⟨rfl, HK2.out.1, (((Mod.refl _ _).alloc _).trans (mod_drewN _ _ _)).trans HK2.out.2⟩
end Go.Proofs.Ytncpdjlladlalaa.V
