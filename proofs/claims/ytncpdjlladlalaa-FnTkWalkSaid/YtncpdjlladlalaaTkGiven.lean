/- The walk of the look at a k-d tree's nodes. Conditions: nodes no longer than they may be. -/
import Derived.Test.YtncpdjlladlalaaTkFl
import Derived.BigGuardPart
namespace Go.Proofs.Ytncpdjlladlalaa
open Go.RowKit Lox
set_option linter.unusedVariables false
attribute [local go_sem] run_store_flt run_store_fn

theorem sl_of_blk {w : World} {g n : Nat} {T : TypeId} {vs : List Value} (h : Blk w g T vs) (hn : vs.length = n) : Sl w (some ⟨g, 0, none⟩) n 1 vs :=
  ⟨by omega, fun _ => ⟨g, 0, rfl, fun j u hu => by rw [Nat.zero_add]; exact h.at hu⟩⟩

/-- A node that is one of a tree of points with d coordinates. -/
def KN.Good (x : KN) : Prop := ((0 < x.p.n ∧ x.p.n ≤ 4) ∧ (x.mn.n = 0 ∨ (0 < x.mn.n ∧ x.mn.n ≤ 4 ∧ 0 < x.mx.n ∧ x.mx.n ≤ 4))) ∧ ∀ y ∈ x.p.xs, Num y

/-- A yes or no; if yes, the nodes are good. -/
def GivenTold (n : Nat) (xs : List KN) (w : World) (e : Ending) (w' : World) : Prop :=
  ∃ b, e = .returned (.bool b) ∧ Mod (fun _ => False) w w' ∧ (b = true → 0 < n ∧ n ≤ 100 ∧ ∀ x ∈ xs, x.Good)

theorem given_no {n : Nat} {xs : List KN} {w w' : World} (h : Mod (fun _ => False) w w') : GivenTold n xs w (.returned (.bool false)) w' := ⟨false, rfl, h, fun h => by cases h⟩

set_option maxRecDepth 100000 in
set_option maxHeartbeats 8000000 in
theorem given_at (T : Option Addr) (c n : Nat) (xs : List KN) (w : World) (hn : n = xs.length) (hN : KNodes w T xs) (hS : ∀ x ∈ xs, x.Small) :
    Calls Try.prog 15 #[.slice T n c, .bool false] w (GivenTold n xs w) := by
  have hnl : n ≤ 9223372036854775807 := by rw [hn]; exact hN.1
  have HN := Lib.hid (And.intro hN (And.intro hn hS))
  clear hN hn hS
  go_enter Try.func15, Try.ntmps15
  by_cases h0 : n = 0
  · subst h0
    go_wp2_with fail
    go_ret
    exact given_no (Mod.refl _ _)
  · have e0 : ((n : Int) == 0) = false := by
      have : (n : Int) ≠ 0 := by omega
      simpa using this
    by_cases hsm : n ≤ 100
    · have e100 : decide ((100 : Int) < (n : Int)) = false := decide_eq_false (by omega)
      obtain ⟨b, o, e, hc⟩ := HN.out.1.2.1 (by rw [← HN.out.2.1]; omega)
      have hk2 : 0 < xs.length := by rw [← HN.out.2.1]; omega
      obtain ⟨x0, ex⟩ : ∃ x0, x0 = xs[0] := ⟨_, rfl⟩
      have hx := hc 0 _ (List.getElem?_eq_getElem hk2)
      rw [← ex] at hx
      have hOk := HN.out.1.2.2 x0 (by rw [ex]; exact List.getElem_mem hk2)
      obtain ⟨d, hd⟩ : ∃ d, d = x0.p.n := ⟨_, rfl⟩
      have c0 := hx.1
      simp only [Nat.zero_mul, Nat.add_zero] at c0
      have c0' : w.cell? ⟨b, o, none⟩ = some (.slice x0.p.A d x0.p.c) := by rw [c0, hd]; rfl
      have hdl : d ≤ 9223372036854775807 := by rw [hd]; exact hOk.1.2
      have HX : Hid (∀ (i : Nat) (x : KN), xs[i]? = some x → x.At w b (o + i * 6)) := hc
      clear hx hOk c0 hc ex hk2 hd
      subst e
      rcases Nat.lt_or_ge 4 d with hd4 | hd4
      · have e4 : decide ((4 : Int) < (d : Int)) = true := decide_eq_true (by omega)
        go_wp2_with fail
        go_ret
        exact given_no (Mod.refl _ _)
      have e4 : decide ((4 : Int) < (d : Int)) = false := decide_eq_false (by omega)
      go_wp2_with fail
      go_loopw [31] (fun i w' => ∃ k : Nat, k ≤ n ∧ i = .int .i64 k ∧ Hid (Mod (fun _ => False) w w' ∧ ∀ x ∈ xs.take k, x.Good)) (fun i _ => n - (intOf i).toNat)
      case atStart => exact ⟨0, Nat.zero_le _, rfl, Mod.refl _ _, by simp⟩
      case round =>
        obtain ⟨k, hk, rfl, HR⟩ := hrel
        by_cases hlt : k < n
        · have hkx : k < xs.length := by rw [← HN.out.2.1]; exact hlt
          obtain ⟨x, exk⟩ : ∃ x, x = xs[k] := ⟨_, rfl⟩
          have hxk : xs[k]? = some x := by rw [exk]; exact List.getElem?_eq_getElem hkx
          have hAt := (HX.out k x hxk).mod HR.out.1
          have HTK : Hid (xs.take (k + 1) = xs.take k ++ [x]) := by show _ = _; rw [List.take_succ_eq_append_getElem hkx, exk]
          have hxm : x ∈ xs := by rw [exk]; exact List.getElem_mem hkx
          have HOK : Hid (KN.Ok wr x) := (HN.out.1.2.2 x hxm).mod HR.out.1
          have hs1 := (HN.out.2.2 x hxm).1
          have hs2 := (HN.out.2.2 x hxm).2
          obtain ⟨⟨A, q, c', ys⟩, pl, cl, fu, ⟨A1, n1, k1, ys1⟩, ⟨A3, n3, k3, ys3⟩⟩ := x
          simp only at hs1 hs2
          obtain ⟨d0, d1, d2, d3, d4, d5⟩ := hAt
          simp only [Pt.v] at d0 d1 d2 d3 d4 d5
          clear exk hxk hkx hxm
          have i0 : (k : Int) < n := by omega
          by_cases hsum : n1 = 0 ∧ n3 = 0
          · obtain ⟨rfl, rfl⟩ := hsum
            go_wp2_with (go_at_call 10; refine (grid_any (some ⟨wr.heap.size + 1, 0, none⟩) 1 1 [⟨A, q, c', ys⟩] (d : Int) 4697254411347427328 _ (sl_of_blk (blk_new_at' (by rw [World.size_alloc]) #[.slice A q c'] 27 rfl) rfl) (by omega) (by intro p hp; rw [List.mem_singleton.1 hp]; exact ⟨HOK.out.1.1.mod (((Mod.refl _ _).alloc _).alloc _), HOK.out.1.2⟩)).mono ?_; rintro _ _ ⟨rfl, g, rfl, hg⟩; have HG := Lib.hid hg; clear hg)
            all_goals first
              | (go_ret; exact given_no (HR.out.1.trans (((Mod.refl _ _).alloc _).alloc _)))
              | (have hgt : g = true := (by first | rfl | assumption | (have h : (!g) = false := (by assumption); simpa using h))
                 go_roundw
                 case rel =>
                   refine ⟨k + 1, by omega, by go_num, HR.out.1.trans (((Mod.refl _ _).alloc _).alloc _), ?_⟩
                   rw [HTK.out]
                   intro z hz
                   rcases List.mem_append.1 hz with h | h
                   · exact HR.out.2 z h
                   · rw [List.mem_singleton.1 h]
                     have h1 := (HG.out hgt).1 _ (List.mem_singleton.2 rfl)
                     have h2 := (HG.out hgt).2
                     simp only at h1
                     exact ⟨⟨⟨by show 0 < q; omega, by show q ≤ 4; omega⟩, .inl rfl⟩, h1.2⟩
                 case measure => simp [intOf]; omega)
          · have e13 : decide ((0 : Int) < (n1 : Int) + (n3 : Int)) = true := decide_eq_true (by omega)
            clear hsum
            have tok1 : True := trivial
            go_wp2_with (first
              | (go_at_call 10; have _t := tok1; clear _t tok1; refine (grid_any (some ⟨wr.heap.size + 1, 0, none⟩) 1 1 [⟨A, q, c', ys⟩] (d : Int) 4697254411347427328 _ (sl_of_blk (blk_new_at' (by rw [World.size_alloc]) #[.slice A q c'] 27 rfl) rfl) (by omega) (by intro p hp; rw [List.mem_singleton.1 hp]; exact ⟨HOK.out.1.1.mod (((Mod.refl _ _).alloc _).alloc _), HOK.out.1.2⟩)).mono ?_; rintro _ _ ⟨rfl, g, rfl, hg⟩; have HG := Lib.hid hg; clear hg)
              | (go_at_call 10; refine (grid_any (some ⟨wr.heap.size + 1 + 1, 0, none⟩) 2 2 [⟨A1, n1, k1, ys1⟩, ⟨A3, n3, k3, ys3⟩] (d : Int) 4697254411347427328 _ (sl_of_blk (blk_new_at' (by rw [World.size_alloc, World.size_alloc]) #[.slice A1 n1 k1, .slice A3 n3 k3] 27 rfl) rfl) (by omega) (by intro p hp; rcases List.mem_cons.1 hp with rfl | hp; exact ⟨HOK.out.2.1.1.mod ((((Mod.refl _ _).alloc _).alloc _).alloc _), HOK.out.2.1.2⟩; rw [List.mem_singleton.1 hp]; exact ⟨HOK.out.2.2.1.mod ((((Mod.refl _ _).alloc _).alloc _).alloc _), HOK.out.2.2.2⟩)).mono ?_; rintro _ _ ⟨rfl, g2, rfl, hg2⟩; have HG2 := Lib.hid hg2; clear hg2))
            all_goals first
              | (go_ret; first | exact given_no (HR.out.1.trans (((Mod.refl _ _).alloc _).alloc _)) | exact given_no (HR.out.1.trans ((((Mod.refl _ _).alloc _).alloc _).alloc _)))
              | (have hgt : g = true := (by first | rfl | assumption | (have h : (!g) = false := (by assumption); simpa using h))
                 have hgt2 : g2 = true := (by first | rfl | assumption | (have h : (!g2) = false := (by assumption); simpa using h))
                 go_roundw
                 case rel =>
                   refine ⟨k + 1, by omega, by go_num, HR.out.1.trans ((((Mod.refl _ _).alloc _).alloc _).alloc _), ?_⟩
                   rw [HTK.out]
                   intro z hz
                   rcases List.mem_append.1 hz with h | h
                   · exact HR.out.2 z h
                   · rw [List.mem_singleton.1 h]
                     have h1 := (HG.out hgt).1 _ (List.mem_singleton.2 rfl)
                     have h2 := (HG.out hgt).2
                     have h3 := ((HG2.out hgt2).1 ⟨A1, n1, k1, ys1⟩ (by simp)).1
                     have h4 := ((HG2.out hgt2).1 ⟨A3, n3, k3, ys3⟩ (by simp)).1
                     simp only at h1 h3 h4
                     exact ⟨⟨⟨by show 0 < q; omega, by show q ≤ 4; omega⟩, .inr ⟨by show 0 < n1; omega, by show n1 ≤ 4; omega, by show 0 < n3; omega, by show n3 ≤ 4; omega⟩⟩, h1.2⟩
                 case measure => simp [intOf]; omega)
        · obtain rfl : k = n := by omega
          go_wp2_with fail
          go_ret
          refine ⟨_, rfl, HR.out.1, fun _ => ⟨by omega, hsm, ?_⟩⟩
          have := HR.out.2
          rw [List.take_of_length_le (by rw [← HN.out.2.1]; exact Nat.le_refl _)] at this
          exact this
    · have e100 : decide ((100 : Int) < (n : Int)) = true := decide_eq_true (by omega)
      go_wp2_with fail
      go_ret
      exact given_no (Mod.refl _ _)
end Go.Proofs.Ytncpdjlladlalaa
