/- The walk of the law's look at what a keeper has shown (kpKept). Conditions: as it says. -/
import Derived.Test.YtncpdjlladlalaaKpCheck
import Derived.Deep.AppendLies
namespace Go.Proofs.Ytncpdjlladlalaa
open Go.RowKit Lox
set_option linter.unusedVariables false
attribute [local go_sem] run_store_flt run_store_fn

theorem sl_prefix {w : World} {A : Option Addr} {n : Nat} {xs : List Nat} (h : Sl w A n 1 (flts xs)) {k : Nat} (hk : k ≤ n) : Sl w A k 1 (flts (xs.take k)) := by
  have hl : xs.length = n := by have := h.1; simpa [flts] using this
  refine ⟨by simp [flts]; omega, fun h0 => ?_⟩
  obtain ⟨b, o, e, hc⟩ := h.2 (by omega)
  refine ⟨b, o, e, fun j v hv => hc j v ?_⟩
  unfold flts at *
  rw [List.getElem?_map] at hv ⊢
  by_cases hj : j < k
  · rw [List.getElem?_take_of_lt hj] at hv; exact hv
  · rw [List.getElem?_eq_none (by simp; omega)] at hv; cases hv

theorem own_lit (w : World) (x : Value) (e : TypeId) : (w.alloc (.cells #[x] e)).ownsRow w.heap.size e 1 (.slice (some ⟨w.heap.size, 0, none⟩) 1 1) 1 [x] := by
  refine ⟨rfl, .inr ⟨w.heap.size, 1, #[x], rfl, Nat.le_refl _, ?_, Nat.le_refl _, by unfold maxLen; omega, rfl, rfl⟩⟩
  have := Blk.new w [x] e
  exact this

theorem own_row_sl {w : World} {B : Nat} {e : TypeId} {A : Option Addr} {n c : Nat} {xs : List Value} (h : w.ownsRow B e 1 (.slice A n c) n xs) : Sl w A n 1 xs := by
  rcases h.2 with ⟨e1, h0⟩ | ⟨g, cap, cur, e1, hb, hg, hc⟩
  · cases e1
    exact ⟨by have := h.1; simpa using this, fun h => by omega⟩
  · cases e1
    refine ⟨h.1, fun _ => ⟨g, 0, rfl, fun j u hu => ?_⟩⟩
    have := h.cells (g := g) rfl j u hu
    rw [addr_lit] at this
    exact this

theorem news_sl {w : World} {b o n : Nat} {xs : List Value} (h : Sl w (some ⟨b, o, none⟩) n 1 xs) : ∀ j u, xs[j]? = some u → w.cell? ((⟨b, o, none⟩ : Addr).add j) = some u := fun j u hu => by
  obtain ⟨b', o', e, hc⟩ := h.2 (by
    have h1 := h.1
    have := (List.getElem?_eq_some_iff.1 hu).1
    omega)
  cases e
  rw [addr_lit]
  exact hc j u hu

theorem flts_one {ys : List Nat} : ∀ u ∈ flts ys, u.oneCell' = true := fun u hu => by
  obtain ⟨x, -, rfl⟩ := List.mem_map.1 hu
  rfl

/-- The bits of -1, and a row behind it. -/
theorem app_done {w1 w2 : World} {g m cap : Nat} {e : TypeId} {ys : List Nat} (hown : w2.ownsRow w1.heap.size e 1 (.slice (some ⟨g, 0, none⟩) (1 + m) cap) (1 + m) ([.float .f64 NEG1] ++ flts ys))
    (hg : (w1.alloc (.cells #[.float .f64 NEG1] e)).grownBy w2 (Value.slice (some ⟨w1.heap.size, 0, none⟩) 1 1).ownBlock) : Sl w2 (some ⟨g, 0, none⟩) (1 + m) 1 (flts (NEG1 :: ys)) ∧ Mod (fun _ => False) w1 w2 := by
  refine ⟨own_row_sl hown, ((Mod.refl _ _).alloc _).grown hg (fun b e hb => ?_)⟩
  simp only [Value.ownBlock, Option.some.injEq] at e
  omega

theorem kept_mem {n : Nat} {l : List El} {ds : List Nat} (h : Kept n l ds) {d : Nat} (hd : some d ∈ l) : d ∈ ds := by
  rcases Nat.lt_or_ge ds.length n with h1 | h1
  · have := (h.few h1).mem_iff.1 hd
    simpa using this
  · obtain ⟨ks, rest, h2, _, h3, _⟩ := h.full h1
    have := h2.mem_iff.1 hd
    have hk : d ∈ ks := by simpa using this
    exact h3.mem_iff.1 (List.mem_append.2 (.inl hk))

theorem shown_fin {l : List El} (h : ∀ d, some d ∈ l → Dist d) : ∀ y ∈ l.map shown, Lox.Fin y := fun y hy => by
  obtain ⟨e, he, rfl⟩ := List.mem_map.1 hy
  cases e with
  | none => exact fin_neg1
  | some d => exact (h d he).1

set_option maxRecDepth 100000 in
set_option maxHeartbeats 16000000 in
theorem look_yes (run : List Nat → List El) (T A : Option Addr) (c c1 m n : Nat) (ds : List Nat) (gs : List Value) (w : World) (hrun : ∀ l, Kept n (run l) l) (hT : Sl w T m 1 (flts ds)) (hc : m ≤ c) (hA : Sl w A m 1 gs)
    (hg : ∀ (i : Nat) (v : Value) (xs : List Nat), gs[i]? = some v → (rowsOf run ds m)[i]? = some xs → ∃ A n c, v = .slice A n c ∧ n ≤ 1099511627776 ∧ Sl w A n 1 (flts xs)) (hd : ∀ d ∈ ds, Dist d) (hn : 0 < n) (hn2 : n ≤ 100) (hm : m ≤ 60) (hcl : c ≤ 9223372036854775807) :
    Calls Try.prog 19 #[.slice A m c1, .int .i64 n, .slice T m c] w fun e w' => e = .returned (.bool true) ∧ Mod (fun _ => False) w w' := by
  obtain ⟨i1, hi0, hz0, hz1, hz2⟩ := info_parts info_f64
  have HJ := Lib.hid (And.intro hi0 (And.intro hz0 (And.intro hz1 hz2)))
  clear hi0 hz0 hz1 hz2
  have hdl : ds.length = m := by have := hT.1; simpa [flts] using this
  have HK := Lib.hid (And.intro hrun (And.intro hT (And.intro hA (And.intro hg (And.intro hd hdl)))))
  clear hrun hT hA hg hd hdl
  go_enter Try.func19, Try.ntmps19
  go_wp2_with fail
  go_loopw [16] (fun i wr => ∃ k : Nat, k ≤ m ∧ i = .int .i64 k ∧ Hid (Mod (fun _ => False) w wr)) (fun i _ => m - (intOf i).toNat)
  case atStart => exact ⟨0, Nat.zero_le _, rfl, Mod.refl _ _⟩
  case round =>
    obtain ⟨k, hk, rfl, HM⟩ := hrel
    by_cases hlt : k < m
    · obtain ⟨P, hP⟩ : ∃ P, P = ds.take (k + 1) := ⟨_, rfl⟩
      obtain ⟨els, hels⟩ : ∃ els, els = run P := ⟨_, rfl⟩
      have hkept : Kept n els P := by rw [hels]; exact HK.out.1 P
      have hPl : P.length = k + 1 := by rw [hP, List.length_take, HK.out.2.2.2.2.2]; omega
      obtain ⟨bt, ot, eT, _⟩ := HK.out.2.1.2 (by omega)
      obtain ⟨bl, ol, v, eA, ev, cv⟩ := HK.out.2.2.1.at1 hlt
      obtain ⟨X, q, cx, rfl, hq, hs⟩ := HK.out.2.2.2.1 k v (els.map shown) ev (by rw [rowsOf_get hlt, hels, hP])
      have hql : els.length = q := by have := hs.1; simpa [flts] using this
      have hdist : ∀ d, some d ∈ els → Dist d := fun d h => HK.out.2.2.2.2.1 d (by have := kept_mem hkept h; rw [hP] at this; exact List.mem_of_mem_take this)
      have hqm : q = min (k + 2) n := by
        rcases hkept.length with h | h
        · rw [hPl] at h; omega
        · omega
      have cc : wr.cell? ⟨bl, ol + k, none⟩ = some (.slice X q cx) := (HM.out.cell (lt_of_cell cv) (fun h => h)).trans cv
      have hblr : bl < wr.heap.size := lt_of_cell cc
      have HT : Hid (Sl wr T (k + 1) 1 (flts P) ∧ (∀ y ∈ P, Dist y) ∧ P.length = k + 1) := ⟨by rw [hP]; exact sl_prefix (HK.out.2.1.mod HM.out) (by omega), fun y hy => HK.out.2.2.2.2.1 y (by rw [hP] at hy; exact List.mem_of_mem_take hy), hPl⟩
      have HX : Hid (Sl wr X q 1 (flts (els.map shown)) ∧ (∀ d, some d ∈ els → Dist d) ∧ Kept n els P ∧ els.length = q) := ⟨hs.mod HM.out, hdist, hkept, hql⟩
      have k0 : (0 : Int) ≤ k := by omega
      have k1 : (k : Int) < m := by omega
      have k2 : (k : Int) + 1 ≤ c := by omega
      clear hP hels hkept hPl cv ev hs hql hdist
      subst eT eA
      by_cases hnk : n ≤ k + 1
      · have t1 : decide ((k : Int) + 1 < n) = false := decide_eq_false (by omega)
        have hqn : q = n := by omega
        clear hqm
        subst hqn
        have HE : Hid (∀ zs ys : List Nat, zs.Perm (els.map shown) → Inc zs → ys.Perm P → Inc ys → zs.map fk = (ys.take q).map fk) := by
          intro zs ys h1 h2 h3 h4
          have hys : ys.length = k + 1 := by rw [h3.length_eq, HT.out.2.2]
          have := HX.out.2.2.1.told (fun d hd => Int.le_of_lt (HT.out.2.1 d hd).2.1) h1 h2 h3 h4
          rw [if_neg (by rw [HT.out.2.2]; omega), Nat.min_eq_left (by omega)] at this
          exact this
        have hkn' : q ≤ k + 1 := hnk
        have hq9 : q ≤ 9223372036854775807 := by omega
        have tok1 : True := trivial
        have tok2 : True := trivial
        have hkn : (k : Int) + 1 ≥ q := by omega
        go_wp2_with (first
          | (go_at_call 43; have _t := tok1; clear _t tok1; refine (increasing_at wr (some ⟨bt, ot, none⟩) (k + 1) c P HT.out.1 (by omega) (fun y hy => (HT.out.2.1 y hy).1)).mono ?_; rintro _ w1 ⟨ys, A1, c1', rfl, hc1, hs1, hm1, hp1, hi1⟩; have cc1 := (hm1.cell hblr (fun h => h)).trans cc; have hblr1 : bl < w1.heap.size := lt_of_cell cc1; have H1 := Lib.hid (And.intro hs1 (And.intro hm1 (And.intro hp1 hi1))); clear hs1 hm1 hp1 hi1)
          | (go_at_call 43; have _t := tok2; clear _t tok2; refine (increasing_at w1 X q cx (els.map shown) (HX.out.1.mod H1.out.2.1) (by omega) (shown_fin HX.out.2.1)).mono ?_; rintro _ w3 ⟨zs, A3, c3, rfl, hc3, hs3, hm3, hp3, hi3⟩; have cc3 := (hm3.cell hblr1 (fun h => h)).trans cc1; have H3 := Lib.hid (And.intro hs3 (And.intro hm3 (And.intro hp3 hi3))); clear hs3 hm3 hp3 hi3)
          | (go_at_call 12; refine (same_fk A3 A1 q c3 c1' zs (ys.take q) w3 H3.out.1 (sl_prefix (H1.out.1.mod H3.out.2.1) hkn') hq9 (fun x hx => shown_fin HX.out.2.1 x (H3.out.2.2.1.mem_iff.1 hx)) (fun y hy => (HT.out.2.1 y (H1.out.2.2.1.mem_iff.1 (List.mem_of_mem_take hy))).1) (HE.out zs ys H3.out.2.2.1 H3.out.2.2.2 H1.out.2.2.1 H1.out.2.2.2)).mono ?_; rintro _ _ ⟨rfl, rfl⟩)
          | (go_at_call 44; refine (heap_yes w3 X q cx els ((HX.out.1.mod H1.out.2.1).mod H3.out.2.1) (by omega) HX.out.2.1 HX.out.2.2.1.heap).mono ?_; rintro _ w4 ⟨rfl, hm4⟩; have H4 := Lib.hid hm4; clear hm4))
        go_roundw
        case rel => exact ⟨k + 1, by omega, by go_num, ((HM.out.trans H1.out.2.1).trans H3.out.2.1).trans H4.out⟩
        case measure => simp [intOf]; omega
      · have t1 : decide ((k : Int) + 1 < n) = true := decide_eq_true (by omega)
        obtain rfl : q = 1 + (k + 1) := by omega
        have HE : Hid (∀ zs ys : List Nat, zs.Perm (els.map shown) → Inc zs → ys.Perm P → Inc ys → zs.map fk = (NEG1 :: ys).map fk) := by
          intro zs ys h1 h2 h3 h4
          have hys : ys.length = k + 1 := by rw [h3.length_eq, HT.out.2.2]
          have := HX.out.2.2.1.told (fun d hd => Int.le_of_lt (HT.out.2.1 d hd).2.1) h1 h2 h3 h4
          rw [if_pos (by rw [HT.out.2.2]; omega), List.take_of_length_le (by omega)] at this
          exact this
        have hkn : (k : Int) + 1 < n := by omega
        have hkn2 : ¬ (n : Int) ≤ k + 1 := by omega
        have hq9 : 1 + (k + 1) ≤ 9223372036854775807 := by omega
        have tok1 : True := trivial
        have tok2 : True := trivial
        clear hqm
        go_wp2_with (first
          | (go_at_call 43; have _t := tok1; clear _t tok1; refine (increasing_at wr (some ⟨bt, ot, none⟩) (k + 1) c P HT.out.1 (by omega) (fun y hy => (HT.out.2.1 y hy).1)).mono ?_; rintro _ w1 ⟨ys, A1, c1', rfl, hc1, hs1, hm1, hp1, hi1⟩; have cc1 := (hm1.cell hblr (fun h => h)).trans cc; obtain ⟨b1, o1, eA1, -⟩ := hs1.2 (by omega); subst eA1; have hblr1 : bl < w1.heap.size := lt_of_cell cc1; have H1 := Lib.hid (And.intro hs1 (And.intro hm1 (And.intro hp1 hi1))); clear hs1 hm1 hp1 hi1)
          | (at_builtin; refine wpList_append_lies _ rfl _ _ _ rfl w1.heap.size 28 i1 (.float .f64 0) 1 8 Try.underlying27 HJ.out.1 HJ.out.2.1 HJ.out.2.2.1 HJ.out.2.2.2 rfl (by decide) (.slice (some ⟨w1.heap.size, 0, none⟩) 1 1) 1 _ rfl (own_lit w1 (.float .f64 NEG1) _) ⟨b1, o1, none⟩ (k + 1) c1' (flts ys) rfl (H1.out.1.1) (news_sl (H1.out.1.alloc _)) flts_one (by omega) (by unfold maxLen; omega) (by omega) (by simp) (w1.heap.size + 1) (by simp) ?_; intro g cap w2 hown hgrow hat hlt2; have H2 := Lib.hid (app_done hown hgrow); have cc2 := (H2.out.2.cell hblr1 (fun h => h)).trans cc1; have hblr2 : bl < w2.heap.size := lt_of_cell cc2; clear hown hgrow hat hlt2)
          | (go_at_call 43; have _t := tok2; clear _t tok2; refine (increasing_at w2 X (1 + (k + 1)) cx (els.map shown) ((HX.out.1.mod H1.out.2.1).mod H2.out.2) (by omega) (shown_fin HX.out.2.1)).mono ?_; rintro _ w3 ⟨zs, A3, c3, rfl, hc3, hs3, hm3, hp3, hi3⟩; have cc3 := (hm3.cell hblr2 (fun h => h)).trans cc2; have H3 := Lib.hid (And.intro hs3 (And.intro hm3 (And.intro hp3 hi3))); clear hs3 hm3 hp3 hi3)
          | (go_at_call 12; refine (same_fk A3 (some ⟨g, 0, none⟩) (1 + (k + 1)) c3 cap zs (NEG1 :: ys) w3 H3.out.1 (H2.out.1.mod H3.out.2.1) hq9 (fun x hx => shown_fin HX.out.2.1 x (H3.out.2.2.1.mem_iff.1 hx)) (List.forall_mem_cons.2 ⟨fin_neg1, fun y hy => (HT.out.2.1 y (H1.out.2.2.1.mem_iff.1 hy)).1⟩) (HE.out zs ys H3.out.2.2.1 H3.out.2.2.2 H1.out.2.2.1 H1.out.2.2.2)).mono ?_; rintro _ _ ⟨rfl, rfl⟩)
          | (go_at_call 44; refine (heap_yes w3 X (1 + (k + 1)) cx els (((HX.out.1.mod H1.out.2.1).mod H2.out.2).mod H3.out.2.1) (by omega) HX.out.2.1 HX.out.2.2.1.heap).mono ?_; rintro _ w4 ⟨rfl, hm4⟩; have H4 := Lib.hid hm4; clear hm4))
        go_roundw
        case rel => exact ⟨k + 1, by omega, by go_num, (((HM.out.trans H1.out.2.1).trans H2.out.2).trans H3.out.2.1).trans H4.out⟩
        case measure => simp [intOf]; omega
    · obtain rfl : k = m := by omega
      go_wp2_with fail
      go_ret
      exact ⟨rfl, HM.out⟩
end Go.Proofs.Ytncpdjlladlalaa
