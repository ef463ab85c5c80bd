/- The walks of SamePoint and Among over points of whole numbers. Conditions: as each says. -/
import Derived.Test.YtmeooadgdagiiaaTnDist
import Derived.Test.YtmeooadgdagiiaaTbKpts
import Derived.Test.YtmeooadgdagiiaaTbSome
namespace Lox
open Go Go.RowKit
set_option linter.unusedVariables false

/-- How many of a key have been taken. -/
def cu (κ : List Int) : List Bool → List (List Int) → Nat
  | true :: U, k :: ks => (if k = κ then 1 else 0) + cu κ U ks
  | false :: U, _ :: ks => cu κ U ks
  | [], _ => 0
  | true :: _, [] => 0
  | false :: _, [] => 0

theorem cu_set (κ : List Int) : ∀ (U : List Bool) (ks : List (List Int)) (j : Nat) (k : List Int), U[j]? = some false → ks[j]? = some k → cu κ (U.set j true) ks = cu κ U ks + (if k = κ then 1 else 0) := by
  intro U
  induction U with
  | nil => intro ks j k h; simp at h
  | cons b U ih =>
    intro ks j k h hk
    cases ks with
    | nil => simp at hk
    | cons a ks =>
      cases j with
      | zero =>
        simp only [List.getElem?_cons_zero, Option.some.injEq] at h hk
        subst h hk
        simp only [List.set_cons_zero, cu]
        omega
      | succ j =>
        simp only [List.getElem?_cons_succ] at h hk
        have := ih ks j k h hk
        cases b <;> simp only [List.set_cons_succ, cu, this]
        omega

theorem cu_all (κ : List Int) : ∀ (U : List Bool) (ks : List (List Int)), U.length = ks.length → (∀ j : Nat, ks[j]? = some κ → U[j]? = some true) → cu κ U ks = ks.count κ := by
  intro U
  induction U with
  | nil => intro ks hl _; have : ks = [] := List.length_eq_zero_iff.1 hl.symm; rw [this]; rfl
  | cons b U ih =>
    intro ks hl h
    cases ks with
    | nil => cases hl
    | cons a ks =>
      have h2 := ih ks (by simpa using hl) fun j hj => by have := h (j + 1) (by simpa using hj); simpa using this
      have h0 := h 0
      simp only [List.getElem?_cons_zero, Option.some.injEq] at h0
      rw [List.count_cons]
      cases b with
      | true =>
        simp only [cu, h2]
        by_cases ha : a = κ
        · rw [if_pos ha, if_pos (by rw [ha]; exact beq_self_eq_true _)]; omega
        · rw [if_neg ha, if_neg (by simpa using ha)]; omega
      | false =>
        have ha : ¬ a = κ := fun e => by cases h0 e
        simp only [cu, h2]
        rw [if_neg (by simpa using ha)]
        omega

theorem cu_zero (κ : List Int) : ∀ (m : Nat) (ks : List (List Int)), cu κ (List.replicate m false) ks = 0 := by
  intro m
  induction m with
  | zero => intro ks; rfl
  | succ m ih => intro ks; rw [List.replicate_succ]; cases ks <;> simp [cu, ih]

theorem cu_left {κ : List Int} {U : List Bool} {ks gs : List (List Int)} {k : Nat} (hl : U.length = ks.length) (hU : cu κ U ks = (gs.take k).count κ) (hk : gs[k]? = some κ) (hc : gs.count κ ≤ ks.count κ) (h : ∀ j : Nat, j < ks.length → U[j]? = some true ∨ ks[j]? ≠ some κ) : False := by
  have h1 := cu_all κ U ks hl fun j hj => by
    rcases h j (List.getElem?_eq_some_iff.1 hj).1 with h | h
    · exact h
    · exact absurd hj h
  have h2 : (gs.take (k + 1)).count κ ≤ gs.count κ := (List.take_sublist _ _).count_le κ
  rw [List.take_add_one, hk, List.count_append] at h2
  simp only [Option.toList_some, List.count_singleton_self] at h2
  omega
end Lox
namespace Go.Proofs.Ytmeooadgdagiiaa
open Go.RowKit Lox
set_option linter.unusedVariables false
attribute [local go_sem] run_store_flt run_store_fn

/-- A point's numbers. -/
noncomputable def TP.key (p : TP) : List Int := p.xs.map zi

set_option maxHeartbeats 1000000 in
theorem same_at (A B : Option Addr) (n c c' : Nat) (xs ys : List Nat) (b : Bool) (w : World) (ha : Sl w A n 1 (flts xs)) (hb : Sl w B n 1 (flts ys)) (hn : n ≤ 9223372036854775807) (hx : ∀ x ∈ xs, ∃ n, Wh x n) (hy : ∀ x ∈ ys, ∃ n, Wh x n) (hbb : b = decide (xs.map zi = ys.map zi)) :
    Calls Try.prog 15 #[.slice A n c, .slice B n c'] w fun e w' => e = .returned (.bool b) ∧ w = w' := by
  have hl : xs.length = n := by have := ha.1; simpa [flts] using this
  have hl2 : ys.length = n := by have := hb.1; simpa [flts] using this
  have HH := Lib.hid (And.intro ha (And.intro hb (And.intro hx (And.intro hy (And.intro hl (And.intro hl2 hbb))))))
  clear ha hb hx hy hl hl2 hbb
  go_enter Try.func15, Try.ntmps15
  go_wp2
  go_loop [14] (fun i => ∃ k : Nat, k ≤ n ∧ i = .int .i64 k ∧ Hid (∀ j, j < k → zi (xs.getD j 0) = zi (ys.getD j 0))) (fun i => n - (intOf i).toNat)
  case atStart => exact ⟨0, Nat.zero_le _, rfl, fun j hj => by omega⟩
  case round =>
    obtain ⟨k, hk, rfl, HR⟩ := hrel
    by_cases hlt : k < n
    · obtain ⟨b1, o1, v1, e1, f1, c1⟩ := HH.out.1.at1 hlt
      obtain ⟨b2, o2, v2, e2, f2, c2⟩ := HH.out.2.1.at1 hlt
      have k1 : k < xs.length := by rw [HH.out.2.2.2.2.1]; exact hlt
      have k2 : k < ys.length := by rw [HH.out.2.2.2.2.2.1]; exact hlt
      rw [flts_getD k1] at f1
      rw [flts_getD k2] at f2
      cases f1
      cases f2
      have gx : ∃ n, Wh (xs.getD k 0) n := HH.out.2.2.1 _ (mem_getD k1)
      have gy : ∃ n, Wh (ys.getD k 0) n := HH.out.2.2.2.1 _ (mem_getD k2)
      have heq := (zi_wh gx).1.eq (zi_wh gy).1
      have HK := Lib.hid (And.intro k1 k2)
      subst e1 e2
      by_cases hz : zi (xs.getD k 0) = zi (ys.getD k 0)
      · rw [decide_eq_true hz] at heq
        have HZ := Lib.hid hz
        clear hz gx gy k1 k2
        generalize xs.getD k 0 = x at c1 heq
        generalize ys.getD k 0 = y at c2 heq
        have hne : (FloatKind.f64.format.order x y != some .eq) = false := by rw [bne, heq]; rfl
        go_wp2
        go_round
        case rel =>
          refine ⟨k + 1, by omega, by go_num, fun j hj => ?_⟩
          rcases Nat.lt_or_ge j k with h | h
          · exact HR.out j h
          · obtain rfl : j = k := by omega
            exact HZ.out
        case measure => simp [intOf]; omega
      · rw [decide_eq_false hz] at heq
        have HZ : Hid (b = false) := by
          show b = false
          rw [HH.out.2.2.2.2.2.2]
          refine decide_eq_false fun e => hz ?_
          have h1 := congrArg (fun l => l[k]?) e
          simp only [List.getElem?_map, List.getElem?_eq_getElem HK.out.1, List.getElem?_eq_getElem HK.out.2, Option.map_some, Option.some.injEq] at h1
          have a1 : xs.getD k 0 = xs[k]'HK.out.1 := by simp [HK.out.1]
          have a2 : ys.getD k 0 = ys[k]'HK.out.2 := by simp [HK.out.2]
          rw [a1, a2]
          exact h1
        clear hz gx gy k1 k2
        generalize xs.getD k 0 = x at c1 heq
        generalize ys.getD k 0 = y at c2 heq
        have hne : (FloatKind.f64.format.order x y != some .eq) = true := by rw [bne, heq]; rfl
        go_wp2
        go_ret
        exact ⟨by rw [HZ.out]; rfl, rfl⟩
    · obtain rfl : k = n := by omega
      have HZ : Hid (b = true) := by
        show b = true
        rw [HH.out.2.2.2.2.2.2]
        refine decide_eq_true (List.ext_getElem (by simp [HH.out.2.2.2.2.1, HH.out.2.2.2.2.2.1]) fun j h1 h2 => ?_)
        rw [List.length_map] at h1 h2
        have := HR.out j (by have := HH.out.2.2.2.2.1; omega)
        simpa [h1, h2] using this
      go_wp2
      go_ret
      exact ⟨by rw [HZ.out]; rfl, rfl⟩

theorem info_bool : (Try.prog.info? 4).map (fun i => (i.zero, i.size, i.bytes)) = some (some (.bool false), 1, 1) := by kernel_rfl

theorem blk_of_full {w : World} {B e n g : Nat} {xs : List Value} (h : w.ownsRow B e 1 (.slice (some ⟨g, 0, none⟩) n n) n xs) : Blk w g e xs := by
  obtain ⟨h1, h2⟩ := h
  rcases h2 with ⟨h2, _⟩ | ⟨g', cap, cur, h2, hb, hg, hn, hm, hs, ht⟩
  · cases h2
  · simp only [Value.slice.injEq, Option.some.injEq, Addr.mk.injEq] at h2
    obtain ⟨⟨rfl, _⟩, _, rfl⟩ := h2
    unfold Blk
    rw [hg]
    have : cur.toList = xs := by rw [← ht, List.take_of_length_le (by simp; omega)]
    rw [← this]

theorem made_falses (n : Nat) : (madeCells (Value.bool false).cells (n * 1)).toList = (List.replicate n false).map Value.bool := by
  apply List.ext_getElem?
  intro i
  simp [madeCells, Value.cells, List.getElem?_replicate]
  by_cases hi : i < n <;> simp [hi]
  simp [Nat.mod_one]

/-- The outer loop's state: which have been taken. -/
structure AM (H m : Nat) (gs ps : List TP) (k : Nat) (U : List Bool) (w w' : World) : Prop where
  blk : Blk w' H 4 (U.map Value.bool)
  len : U.length = m
  cnt : ∀ κ, cu κ U (ps.map TP.key) = ((gs.map TP.key).take k).count κ
  mod : Mod (fun _ => False) w w'

theorem AM.step {H m k j : Nat} {gs ps : List TP} {U : List Bool} {w w' : World} {p q : TP} (h : AM H m gs ps k U w w') (hH : w.heap.size ≤ H) (hp : gs[k]? = some p) (hq : ps[j]? = some q) (hU : U[j]? = some false) (he : p.key = q.key) : AM H m gs ps (k + 1) (U.set j true) w (w'.setCell ⟨H, j, none⟩ (.bool true)) := by
  refine ⟨?_, by rw [List.length_set]; exact h.len, fun κ => ?_, h.mod.set (p := ⟨H, j, none⟩) (.inr hH) _⟩
  · have := h.blk.set j (.bool true)
    rw [List.map_set]
    exact this
  · have hk : (gs.map TP.key)[k]? = some p.key := by rw [List.getElem?_map, hp]; rfl
    rw [cu_set κ U _ j q.key hU (by rw [List.getElem?_map, hq]; rfl), h.cnt κ, List.take_add_one, hk, List.count_append]
    simp only [Option.toList_some, List.count_singleton]
    rw [he]
    by_cases e : q.key = κ
    · rw [if_pos e, if_pos (by rw [e]; exact beq_self_eq_true _)]
    · rw [if_neg e, if_neg (by simpa using e)]

set_option maxRecDepth 100000 in
set_option maxHeartbeats 8000000 in
theorem among_at (A I : Option Addr) (n c m ci dims : Nat) (gs ps : List TP) (w : World) (hg : PRows w A n gs dims) (hp : PRows w I m ps dims) (gg : ∀ p ∈ gs, p.Gr) (gp : ∀ p ∈ ps, p.Gr) (hn : n ≤ 2147483647 ∧ m ≤ 2147483647) (hd : dims ≤ 9223372036854775807) (hc : ∀ κ, (gs.map TP.key).count κ ≤ (ps.map TP.key).count κ) :
    Calls Try.prog 52 #[.slice A n c, .slice I m ci] w fun e w' => e = .returned (.bool true) ∧ Mod (fun _ => False) w w' := by
  obtain ⟨i0, hi0, hz0, hz1, hz2⟩ := info_parts info_bool
  have HI := Lib.hid (And.intro hi0 (And.intro hz0 (And.intro hz1 hz2)))
  clear hi0 hz0 hz1 hz2
  have hgl := hg.len
  have hpl := hp.len
  have HH := Lib.hid (And.intro hg (And.intro hp (And.intro gg (And.intro gp (And.intro hc (And.intro hgl hpl))))))
  clear hg hp gg gp hc hgl hpl
  go_enter Try.func52, Try.ntmps52
  go_wp2_with (at_make; refine wpList_make_full _ rfl _ _ 130 rfl 0 4 i0 (.bool false) 1 Try.underlying130 HI.out.1 HI.out.2.1 HI.out.2.2.1 _ _ _ _ m rfl rfl rfl rfl (by rw [HI.out.2.2.2]; omega) (by unfold maxLen; omega) (Nat.zero_le _) ?_; intro w3 hown3 hgrow3)
  have hseen : Blk w3 w.heap.size 4 ((List.replicate m false).map Value.bool) := by
    rw [← made_falses]; exact blk_of_full hown3
  have hm3 : Mod (fun _ => False) w w3 := mod_of_grown hgrow3
  have HA0 : Hid (AM w.heap.size m gs ps 0 (List.replicate m false) w w3) := ⟨hseen, by simp, fun κ => by rw [cu_zero]; rfl, hm3⟩
  obtain ⟨H, hH⟩ : ∃ H, H = w.heap.size := ⟨_, rfl⟩
  rw [← hH] at HA0
  rw [← hH]
  have HHH := Lib.hid hH
  clear hown3 hgrow3 hseen hm3 hH
  go_loopw [16] (fun i wr => ∃ (k : Nat) (U : List Bool), k ≤ n ∧ i = .int .i64 k ∧ Hid (AM H m gs ps k U w wr)) (fun i _ => n - (intOf i).toNat)
  case atStart => exact ⟨0, _, Nat.zero_le _, rfl, HA0.out⟩
  case round =>
    obtain ⟨k, U, hk, rfl, HR⟩ := hrel
    by_cases hlt : k < n
    · have hgr := HH.out.1.mod HR.out.mod
      obtain ⟨b, o, v0, e1, e2, c1⟩ := hgr.1.at1 hlt
      have hk2 : k < gs.length := by rw [HH.out.2.2.2.2.2.1]; exact hlt
      obtain ⟨p, ep⟩ : ∃ p, p = gs[k] := ⟨_, rfl⟩
      have hpk : gs[k]? = some p := by rw [ep]; exact List.getElem?_eq_getElem hk2
      have hpm : p ∈ gs := List.mem_of_getElem? hpk
      have e3 : (gs.map TP.v)[k]? = some p.v := by rw [List.getElem?_map, hpk]; rfl
      rw [e3] at e2
      cases e2
      obtain ⟨hrd, hpl⟩ := hgr.2 p hpm
      have c2 : wr.cell? ⟨b, o + k, none⟩ = some (.slice p.A dims p.c) := by rw [c1, ← hpl]; rfl
      have hsp : Sl wr p.A dims 1 (flts p.xs) := by rw [← hpl]; exact hrd.1
      have HP := Lib.hid (And.intro hpk (And.intro hsp (TP.gr_iff.1 (HH.out.2.2.1 p hpm))))
      subst e1
      clear hgr hk2 ep hpk hpm e3 c1 hrd hpl hsp
      have i0' : (0 : Int) ≤ k := by omega
      have i1' : (k : Int) < n := by omega
      go_wp2
      go_loop [22] (fun i => ∃ j : Nat, j ≤ m ∧ i = .int .i64 j ∧ Hid (∀ j' : Nat, j' < j → U[j']? = some true ∨ (ps.map TP.key)[j']? ≠ some p.key)) (fun i => m - (intOf i).toNat)
      case atStart => exact ⟨0, Nat.zero_le _, rfl, fun j' hj => by omega⟩
      case round =>
        obtain ⟨j, hj, rfl, HJ⟩ := hrel
        by_cases hlj : j < m
        · have hpr := HH.out.2.1.mod HR.out.mod
          obtain ⟨b2, o2, v2, f1, f2, d1⟩ := hpr.1.at1 hlj
          have hj2 : j < ps.length := by rw [HH.out.2.2.2.2.2.2]; exact hlj
          obtain ⟨q, eq⟩ : ∃ q, q = ps[j] := ⟨_, rfl⟩
          have hqj : ps[j]? = some q := by rw [eq]; exact List.getElem?_eq_getElem hj2
          have hqm : q ∈ ps := List.mem_of_getElem? hqj
          have f3 : (ps.map TP.v)[j]? = some q.v := by rw [List.getElem?_map, hqj]; rfl
          rw [f3] at f2
          cases f2
          obtain ⟨hrd, hql⟩ := hpr.2 q hqm
          have d2 : wr.cell? ⟨b2, o2 + j, none⟩ = some (.slice q.A dims q.c) := by rw [d1, ← hql]; rfl
          have hsq : Sl wr q.A dims 1 (flts q.xs) := by rw [← hql]; exact hrd.1
          obtain ⟨u, hu⟩ : ∃ u, U[j]? = some u := ⟨_, List.getElem?_eq_getElem (by rw [HR.out.len]; exact hlj)⟩
          have x0 : wr.cell? ⟨H, j, none⟩ = some (.bool u) := HR.out.blk.at (i := j) (by rw [List.getElem?_map, hu]; rfl)
          have z0 := HR.out.blk.frozen j
          have HQ := Lib.hid (And.intro hqj (And.intro hsq (And.intro (TP.gr_iff.1 (HH.out.2.2.2.1 q hqm)) hu)))
          have hkq : Hid ((ps.map TP.key)[j]? = some q.key) := by show _ = _; rw [List.getElem?_map, hqj]; rfl
          subst f1
          clear hpr hj2 eq hqj hqm f3 d1 hrd hql hsq hu
          have j0' : (0 : Int) ≤ j := by omega
          have j1' : (j : Int) < m := by omega
          cases u with
          | true =>
            go_wp2
            go_round
            case rel =>
              refine ⟨j + 1, by omega, by go_num, fun j' hj' => ?_⟩
              rcases Nat.lt_or_ge j' j with h | h
              · exact HJ.out j' h
              · obtain rfl : j' = j := by omega
                exact .inl HQ.out.2.2.2
            case measure => simp [intOf]; omega
          | false =>
            by_cases hkk : p.key = q.key
            · have HK := Lib.hid hkk
              clear hkk
              go_wp2_with (go_at_call 15; refine (same_at p.A q.A dims p.c q.c p.xs q.xs true _ HP.out.2.1 HQ.out.2.1 hd HP.out.2.2 HQ.out.2.2.1 (decide_eq_true HK.out).symm).mono ?_; rintro _ _ ⟨rfl, rfl⟩)
              go_roundw
              case rel => exact ⟨k + 1, U.set j true, by omega, by go_num, HR.out.step (by rw [HHH.out]; exact Nat.le_refl _) HP.out.1 HQ.out.1 HQ.out.2.2.2 HK.out⟩
              case measure => simp [intOf]; omega
            · have HK := Lib.hid hkk
              clear hkk
              go_wp2_with (go_at_call 15; refine (same_at p.A q.A dims p.c q.c p.xs q.xs false _ HP.out.2.1 HQ.out.2.1 hd HP.out.2.2 HQ.out.2.2.1 (decide_eq_false HK.out).symm).mono ?_; rintro _ _ ⟨rfl, rfl⟩)
              go_round
              case rel =>
                refine ⟨j + 1, by omega, by go_num, fun j' hj' => ?_⟩
                rcases Nat.lt_or_ge j' j with h | h
                · exact HJ.out j' h
                · obtain rfl : j' = j := by omega
                  refine .inr fun e => ?_
                  rw [hkq.out] at e
                  injection e with e
                  exact HK.out e.symm
              case measure => simp [intOf]; omega
        · obtain rfl : j = m := by omega
          exact (cu_left (U := U) (ks := ps.map TP.key) (gs := gs.map TP.key) (k := k) (κ := p.key) (by rw [List.length_map, HR.out.len, HH.out.2.2.2.2.2.2]) (HR.out.cnt _) (by rw [List.getElem?_map, HP.out.1]; rfl) (HH.out.2.2.2.2.1 _) (fun j' hj' => HJ.out j' (by rw [List.length_map, HH.out.2.2.2.2.2.2] at hj'; exact hj'))).elim
    · obtain rfl : k = n := by omega
      go_wp2
      go_ret
      exact ⟨rfl, HR.out.mod⟩
end Go.Proofs.Ytmeooadgdagiiaa
