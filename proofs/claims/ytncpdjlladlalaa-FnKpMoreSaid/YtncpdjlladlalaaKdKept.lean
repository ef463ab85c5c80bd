/- The walk of the thin package's KKeptIn. Conditions: as it says. -/
import Derived.Test.YtncpdjlladlalaaKdShow
import Derived.Test.YtncpdjlladlalaaKdRows
import Derived.Test.YtncpdjlladlalaaKdPlain
import Derived.Test.YtncpdjlladlalaaKkKept
import Derived.Deep.RegionLaw
import Derived.Deep.RegionHeld3
import Derived.Deep.DrawnRows
import Derived.Outline
namespace Go.Proofs.Ytncpdjlladlalaa.D
open Go.RowKit Lox
set_option linter.unusedVariables false
attribute [local go_sem] run_store_flt run_store_fn
attribute [local go_sem ↓] Go.wp_at_zero Go.wp_at_succ

theorem kcatch_idle (p q : Addr) (w : World) :
    CallsD Try.prog 49 #[.pointer (some p), .pointer (some q)] .returning w fun e u' w' => e = .returned (.tuple #[]) ∧ u' = .returning ∧ w' = w := by
  refine callsD_of_wpS Try.func49 rfl fun c₀ cs hu => ?_
  apply wpS_seq
  apply wpS_region
  simp [wpOpsS, go_sem, recoverD, hu, Try.ntmps49, Exit.thenS]
  refine wpS_cond (t := false) (by simp [Act.eval, Array.replicate]) ?_
  simp only [Bool.false_eq_true, if_false]
  refine wpS_of_wp (wp_skip ?_)
  cases c₀
  simp_all [bodyPostS, results, Try.results49]

/-- What KKeptIn tells: as many rows as distances; the last one is known. -/
def InTold (m : Nat) (last : List Nat) (w : World) (e : Ending) (w' : World) : Prop :=
  ∃ A c gs, e = .returned (.tuple #[.slice A m c, .bool true]) ∧ Mod (fun _ => False) w w' ∧ Sl w' A m 1 gs ∧ (0 < m → ∃ B v, gs[m - 1]? = some v ∧ RowAt B w' v last)

/-- The memory of the walk. -/
def InLoop (H S k : Nat) (w wr : World) (els : List El) : Prop :=
  ∃ hb cap, RL H w wr k (els.map shown) hb ∧ DKS S wr (H + 2 + 1) hb els.length cap els ∧ Blk wr (H + 1) 4 [.bool false] ∧ cap ≤ maxLen ∧ H + 2 ≤ hb

theorem in_end {H k c1 hb : Nat} {w wr W : World} {last : List Nat} {gs : List Value} {A1 : Option Addr} (h : RL H w wr k last hb) (hb : Blk wr (H + 1) 4 [.bool false])
    (b1 : Blk wr H 32 [.slice A1 k c1]) (o1 : wr.ownsRow (H + 4) 27 1 (.slice A1 k c1) k gs) (hl : 0 < k → ∃ v, gs[k - 1]? = some v ∧ RowAt (H + 4) wr v last) (hs : Sl wr A1 k 1 gs)
    (eW : W = (wr.setCell ⟨H, 0, none⟩ (.slice A1 k c1)).setCell ⟨H + 1, 0, none⟩ (.bool true)) :
    InTold k last w (.returned (.tuple #[.slice A1 k c1, .bool true])) W ∧ W.cell? ⟨H, 0, none⟩ = some (.slice A1 k c1) ∧ W.cell? ⟨H + 1, 0, none⟩ = some (.bool true) := by
  subst eW
  have hlow := h.low
  have keep : ∀ b, H + 4 ≤ b → ((wr.setCell ⟨H, 0, none⟩ (.slice A1 k c1)).setCell ⟨H + 1, 0, none⟩ (.bool true)).heap[b]? = wr.heap[b]? := fun b hb =>
    (Below.heap_setCell _ _ _ _ (by show b ≠ H + 1; omega)).trans (Below.heap_setCell _ _ _ _ (by show b ≠ H; omega))
  refine ⟨⟨A1, c1, gs, rfl, ?_, ?_, fun h0 => ?_⟩, ?_, ?_⟩
  · have e1 : Mod (fun _ => False) w (wr.setCell ⟨H, 0, none⟩ (.slice A1 k c1)) := h.mod.set (p := ⟨H, 0, none⟩) (.inr hlow) _
    exact e1.set (p := ⟨H + 1, 0, none⟩) (.inr (by show w.heap.size ≤ H + 1; omega)) _
  · exact sl_keep3 hs fun b o e _ => keep b (own_ge3 o1 (by rw [e]; rfl)).1
  · obtain ⟨v, hv, A, n, c, e, hn, hsl, hA⟩ := hl h0
    exact ⟨H + 4, v, hv, A, n, c, e, hn, sl_keep3 hsl fun b o e2 _ => keep b (hA b o e2), hA⟩
  · exact ((b1.set 0 _).other (a := ⟨H + 1, 0, none⟩) _ (by show H + 1 ≠ H; omega)).at (i := 0) rfl
  · exact ((hb.other (a := ⟨H, 0, none⟩) _ (by show H ≠ H + 1; omega)).set 0 (.bool true)).at (i := 0) rfl

set_option maxRecDepth 100000 in
set_option maxHeartbeats 8000000 in
theorem kin_at (T : Option Addr) (c m S : Nat) (ds : List Nat) (w : World) (hs : Sl w T m 1 (flts ds)) (hm : m ≤ 2147483647) (hf : ∀ d ∈ ds, Lox.Fin d) (hS : Lox.Fin S) :
    Calls Try.prog 22 #[.float .f64 S, .slice T m c] w (InTold m ((runD S ds).map shown) w) := by
  have hmf : ∀ (fn : Fn) (first cap : Array Value) (w : World), (Instr.makeFunc fn first cap).run Try.prog w = .ok (.func fn first cap) w := fun _ _ _ _ => rfl
  obtain ⟨H, hH⟩ : ∃ H, w.heap.size = H := ⟨_, rfl⟩
  obtain ⟨W2, eW, z2, m2, q0, q1⟩ := kinit2 w H hH
  have HW := Lib.hid (And.intro z2 (And.intro m2 (And.intro q0 q1)))
  have HEW := Lib.hid eW
  have hdl : ds.length = m := by have := hs.1; simpa [flts] using this
  have HS : Hid (Sl w T m 1 (flts ds) ∧ (∀ d ∈ ds, Lox.Fin d) ∧ ds.length = m) := ⟨hs, hf, hdl⟩
  have HH := Lib.hid hH
  clear hs hf hdl z2 m2 q0 q1 eW
  go_enter_defers Try.func22, Try.ntmps22
  go_wp2_with (go_at_call 50; rw [← HEW.out]; refine (knew_at W2 S).mono ?_; rintro _ w3 ⟨e3, hk3, hm3⟩; rw [HW.out.1] at e3 hk3; subst e3; have HK3 := Lib.hid (And.intro hk3 hm3); clear hk3 hm3)
  go_loopw [14] (fun i wr => ∃ k : Nat, k ≤ m ∧ i = .int .i64 k ∧ Hid (InLoop H S k w wr (runD S (ds.take k)))) (fun i _ => m - (intOf i).toNat)
  case atStart =>
    refine ⟨0, Nat.zero_le _, rfl, H + 2, 1, ⟨HW.out.2.1.trans HK3.out.2, Nat.le_of_eq HH.out, ?_, .slice none 0 0, [], HW.out.2.2.1.mod HK3.out.2 (fun h => h), World.ownsRow_nil _ _ _ _, by simp [Value.ownBlock], fun h => absurd h (Nat.lt_irrefl 0)⟩, HK3.out.1, HW.out.2.2.2.mod HK3.out.2 (fun h => h), by unfold maxLen; omega, Nat.le_refl _⟩
    have := HK3.out.1.bds.2.1
    omega
  case round =>
    obtain ⟨k, hk, rfl, HR⟩ := hrel
    by_cases hlt : k < m
    · obtain ⟨b, o, v, e1, e2, c1⟩ := HS.out.1.at1 hlt
      have hkd : k < ds.length := by rw [HS.out.2.2]; exact hlt
      rw [flts_getD hkd] at e2
      cases e2
      obtain ⟨d, ed⟩ : ∃ d, d = ds.getD k 0 := ⟨_, rfl⟩
      rw [← ed] at c1
      have hdk : ds[k]? = some d := by rw [ed]; simp [hkd]
      have hd : Lox.Fin d := HS.out.2.1 d (List.mem_of_getElem? hdk)
      obtain ⟨hb, cap, hRL, hDK, hBB, hcm, hhb⟩ := HR.out
      have cc : wr.cell? ⟨b, o + k, none⟩ = some (.float .f64 d) := (hRL.mod.cell (lt_of_cell c1) (fun h => h)).trans c1
      obtain ⟨els, hels⟩ : ∃ els, els = runD S (ds.take k) := ⟨_, rfl⟩
      obtain ⟨L, hL⟩ : ∃ L, L = els.length := ⟨_, rfl⟩
      have hkept := runD_kept S (ds.take k)
      rw [← hels] at hkept
      have hL0 : 0 < L := by rw [hL]; exact hkept.length.1
      have htop := hkept.top
      have hLl : L ≤ 4294967296 := by have := hkept.length.2; rw [List.length_take] at this; omega
      rw [← hels, ← hL] at hDK
      rw [← hels] at hRL
      have HR2 := Lib.hid (And.intro hRL (And.intro hDK hBB))
      have HE : Hid (keepD S els d = runD S (ds.take (k + 1))) := by show _ = _; rw [take_snoc' hdk, runD_snoc, hels]
      have hL20 : 0 < (keepD S els d).length := (keepD_ok d hkept).length.1
      have hL2l : (keepD S els d).length ≤ 4294967296 := by have := (keepD_ok d hkept).length.2; simp at this; omega
      have HT := Lib.hid htop
      clear ed hkd hdk hels hL hkept hRL hDK hBB htop
      subst e1
      go_wp2_with (go_at_call 51; refine (kkeep_at _ (H + 2 + 1) hb L cap d _ els (HR2.out.2.1.alloc _) hL0 hcm hLl hd hS HT.out).mono ?_; rintro _ w4 ⟨hb4, cap4, rfl, hk4, hc4, hh4, hm4⟩; have HK4 := Lib.hid (And.intro hk4 (And.intro (((Mod.refl (fun k => k = hb ∨ k = H + 2 + 1) wr).alloc _).trans hm4) hh4)); clear hk4 hm4 hh4)
      obtain ⟨v1, gs, hR4⟩ := HR2.out.1.keep hhb HK4.out.2.1 (hb2 := hb4) (by have := HK4.out.2.2; simp at this; omega)
      have hh4 : H + 2 ≤ hb4 := by have := HK4.out.2.2; have := HR2.out.1.size; simp at *; omega
      have hb4' : Blk w4 (H + 1) 4 [.bool false] := HR2.out.2.2.mod HK4.out.2.1 (by omega)
      obtain ⟨els2, hE2⟩ : ∃ els2, els2 = keepD S els d := ⟨_, rfl⟩
      obtain ⟨L2, hL2⟩ : ∃ L2, L2 = els2.length := ⟨_, rfl⟩
      have hk4 : DKS S w4 (H + 2 + 1) hb4 L2 cap4 els2 := by
        have := HK4.out.1
        rw [← hE2, ← hL2] at this
        exact this
      have hlc := hk4.bds.2.2.2.2
      have hb4l := hk4.bds.2.2.1
      rw [← hE2, ← hL2] at hL20 hL2l
      have b1 := hR4.blk
      have o1 := hR4.own
      have cL := b1.at (i := 0) rfl
      have fL := b1.frozen 0
      have cT := hk4.top.1
      have n1 : v1.ownBlock ≠ some H := fun e => by have := (own_ge3 o1 e).1; omega
      have hL : H < w4.heap.size := b1.lt
      have hsz4 := hR4.size
      obtain ⟨i0, hi0, hz0, hz1, hz2⟩ := info_parts info_rowf
      have HI := Lib.hid (And.intro hi0 (And.intro hz0 (And.intro hz1 hz2)))
      have H4 := Lib.hid (And.intro hR4 (And.intro hb4' (And.intro hk4 (And.intro o1 (And.intro hE2 hL2)))))
      clear hi0 hz0 hz1 hz2 hR4 b1 o1 hb4' hk4 hE2 hL2 HK4
      refine wp_region_noPanic ?_
      go_region_law
        (first
          | (go_simp; go_at_call 48; (refine (kshow_at _ (H + 2 + 1) hb4 L2 cap4 els2 H4.out.2.2.1.drew hL2l).mono ?_; rintro _ w5 ⟨A2, c2, rfl, hs2, hm2, hb2⟩; have hw5 : Mod (fun _ => False) w4 w5 := ((Mod.refl _ _).drew.trans hm2); have hz := hw5.size; have hL5 : H < w5.heap.size := (by omega); have cL5 : w5.cell? ⟨H, 0, none⟩ = some v1 := (hw5.cell hL (fun h => h)).trans cL))
          | ((refine step_append_lies _ (by rfl) _ _ _ (by rfl) (H + 4) 27 i0 _ 1 24 Try.underlying32 HI.out.1 HI.out.2.1 HI.out.2.2.1 HI.out.2.2.2 rfl (by omega) v1 k gs (by rfl) ((H4.out.2.2.2.1.kept hw5.grownBy (Decidable.em _)).alloc _) ⟨w5.heap.size, 0, none⟩ 1 1 [.slice A2 L2 c2] (by rfl) (by rfl) (World.news_of_block (cs := #[.slice A2 L2 c2]) (t := 27) (fr := (0, 0)) (heap_alloc_new w5 _)) (by simp [Value.oneCell']) (by omega) (by unfold maxLen; omega) (by omega) (by simp; omega) (w5.heap.size + 1) (by simp) ?_; intro gg gcap w6 hown6 hgrow hat hlt6; have cL6 : w6.cell? ⟨H, 0, none⟩ = some v1 := (hgrow.cell_far _ (by rw [World.size_alloc]; exact Nat.lt_succ_of_lt hL5) (Ne.symm n1)).trans ((World.cell?_alloc_past _ _ _ hL5).trans cL5); have fz6 : w6.frozen? ⟨H, 0, none⟩ = false := (hgrow.frozen_far _ (by rw [World.size_alloc]; exact Nat.lt_succ_of_lt hL5) (Ne.symm n1)).trans ((World.frozen?_alloc_past _ _ _ hL5).trans ((hw5.frozen hL (fun h => h)).trans fL)))))
      all_goals
        refine NoPanic.normal ?_
        have hP := H4.out.1.push hw5 hs2 (fun b o e => ⟨hb2 b o e, hs2.far (by omega) hL20 b o e⟩) (by omega) hb4l hown6 hgrow hat
        have HP := Lib.hid hP
        clear hown6 hgrow hat hP hs2 hb2
        go_wp2_with fail
        go_roundw
        case rel =>
          have h1 := H4.out.1.ne
          have o1 := H4.out.2.2.2.1
          refine ⟨k + 1, by omega, by go_num, hb4, cap4, ?_, ?_, ?_, hc4, hh4⟩
          · rw [← HE.out, ← H4.out.2.2.2.2.1]
            exact HP.out.1
          · rw [← HE.out, ← H4.out.2.2.2.2.1, ← H4.out.2.2.2.2.2]
            exact kd_blocks H4.out.2.2.1 (HP.out.2 _ (by omega) (by omega) (fun e => by have := (own_ge3 o1 e).1; omega)) (HP.out.2 _ hb4l (by omega) h1)
          · have hb := H4.out.2.1
            unfold Blk at hb ⊢
            exact (HP.out.2 (H + 1) (by omega) (by omega) (fun e => by have := (own_ge3 o1 e).1; omega)).trans hb
        case measure => simp [intOf]; omega
    · obtain rfl : k = m := by omega
      obtain ⟨hb, cap, hRL, hDK, hBB, hcm, hhb⟩ := HR.out
      obtain ⟨v1, gs, b1, o1, hne, hl⟩ := hRL.rows
      rw [List.take_of_length_le (by rw [HS.out.2.2]; exact Nat.le_refl _)] at hRL hl
      have cL := b1.at (i := 0) rfl
      have fL := b1.frozen 0
      have cB := hBB.at (i := 0) rfl
      have fB := hBB.frozen 0
      obtain ⟨A1, c1, rfl, hs1⟩ := own_sl3 o1
      have HO := Lib.hid (And.intro b1 (And.intro o1 (And.intro hl (And.intro hs1 (And.intro hRL hBB)))))
      clear b1 o1 hl hs1 hRL hBB hDK
      go_wp2_with fail
      obtain ⟨W, eW⟩ : ∃ W, W = (wr.setCell ⟨H, 0, none⟩ (.slice A1 k c1)).setCell ⟨H + 1, 0, none⟩ (.bool true) := ⟨_, rfl⟩
      have hfin := in_end HO.out.2.2.2.2.1 HO.out.2.2.2.2.2 HO.out.1 HO.out.2.1 HO.out.2.2.1 HO.out.2.2.2.1 eW
      rw [← eW]
      have HF := Lib.hid hfin
      obtain ⟨_, r1, r2⟩ := hfin
      clear eW
      refine leaves_cons (f := 49) (args := #[.pointer (some ⟨H, 0, none⟩), .pointer (some ⟨H + 1, 0, none⟩)]) (by simp) (by simp [go_sem]) ?_
      refine (kcatch_idle ⟨H, 0, none⟩ ⟨H + 1, 0, none⟩ _).mono ?_
      rintro e u' w'' ⟨rfl, rfl, rfl⟩
      simp [Leaves, settle, results, Try.results22, go_sem, r1, r2]
      exact HF.out.1
end Go.Proofs.Ytncpdjlladlalaa.D
