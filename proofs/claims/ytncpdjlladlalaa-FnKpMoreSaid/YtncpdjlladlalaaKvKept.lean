/- The walk of the thin package's KKept. Conditions: as it says. -/
import Derived.Test.YtncpdjlladlalaaKvShow
import Derived.Test.YtncpdjlladlalaaKpRows
import Derived.Deep.RegionLaw
import Derived.Deep.RegionHeld3
import Derived.Deep.DrawnRows
import Derived.Outline
namespace Go.Proofs.Ytncpdjlladlalaa.V
open Go.RowKit Lox
set_option linter.unusedVariables false
attribute [local go_sem] run_store_flt run_store_fn
attribute [local go_sem ↓] Go.wp_at_zero Go.wp_at_succ

theorem info_rowf : (Try.prog.info? 27).map (fun i => (i.zero, i.size, i.bytes)) = some (some (.slice none 0 0), 1, 24) := by kernel_rfl

theorem kcatch_idle (p q : Addr) (w : World) :
    CallsD Try.prog 39 #[.pointer (some p), .pointer (some q)] .returning w fun e u' w' => e = .returned (.tuple #[]) ∧ u' = .returning ∧ w' = w := by
  refine callsD_of_wpS Try.func39 rfl fun c₀ cs hu => ?_
  apply wpS_seq
  apply wpS_region
  simp [wpOpsS, go_sem, recoverD, hu, Try.ntmps39, Exit.thenS]
  refine wpS_cond (t := false) (by simp [Act.eval, Array.replicate]) ?_
  simp only [Bool.false_eq_true, if_false]
  refine wpS_of_wp (wp_skip ?_)
  cases c₀
  simp_all [bodyPostS, results, Try.results39]

/-- What a Kept function tells: a row of numbers behind each distance. -/
def KeptTold (rows : List (List Nat)) (w : World) (e : Ending) (w' : World) : Prop :=
  ∃ A c gs, e = .returned (.tuple #[.slice A rows.length c, .bool true]) ∧ Mod (fun _ => False) w w' ∧ Sl w' A rows.length 1 gs ∧ gs.length = rows.length ∧
    ∀ (i : Nat) (v : Value) (xs : List Nat), gs[i]? = some v → rows[i]? = some xs → ∃ A n c, v = .slice A n c ∧ n ≤ 1099511627776 ∧ Sl w' A n 1 (flts xs)

theorem kinit2 (w : World) (H : Nat) (hH : w.heap.size = H) : ∃ W, W = ((w.alloc (.cells #[.slice none 0 0] 32)).alloc (.cells #[.bool false] 4)) ∧ W.heap.size = H + 2 ∧ Mod (fun _ => False) w W ∧ Blk W H 32 [.slice none 0 0] ∧ Blk W (H + 1) 4 [.bool false] := by
  have h1 : (w.alloc (.cells #[.slice none 0 0] 32)).heap.size = H + 1 := by rw [World.size_alloc, hH]
  refine ⟨_, rfl, by rw [World.size_alloc, h1], (((Mod.refl _ _).alloc _).alloc _), ?_, ?_⟩
  · have := (Blk.new' w #[.slice none 0 0] 32).alloc (.cells #[.bool false] 4)
    rw [hH] at this
    exact this
  · have := Blk.new' (w.alloc (.cells #[.slice none 0 0] 32)) #[.bool false] 4
    rw [h1] at this
    exact this

/-- The memory of the walk. -/
def KLoop (H n : Nat) (w wr : World) (els : List El) (rows : List (List Nat)) : Prop :=
  RW H (H + 4) w wr rows ∧ KKS wr (H + 2 + 1) (H + 2) els.length n els ∧ Blk wr (H + 1) 4 [.bool false]

theorem own_sl3 {w : World} {B : Nat} {e : TypeId} {v : Value} {n : Nat} {xs : List Value} (h : w.ownsRow B e 1 v n xs) : ∃ A cap, v = .slice A n cap ∧ Sl w A n 1 xs := by
  rcases h.2 with ⟨rfl, h0⟩ | ⟨g, cap, cur, e1, hb, hg, hc⟩
  · subst h0
    exact ⟨none, 0, rfl, by have := h.1; simpa using this, fun h => by omega⟩
  · refine ⟨some ⟨g, 0, none⟩, cap, e1, h.1, fun _ => ⟨g, 0, rfl, fun j u hu => ?_⟩⟩
    have := h.cells (g := g) (by rw [e1]; rfl) j u hu
    rw [addr_lit] at this
    exact this

theorem kept_end {H k c1 : Nat} {w wr W : World} {rows : List (List Nat)} {gs : List Value} {A1 : Option Addr} (hk : rows.length = k) (h : RW H (H + 4) w wr rows) (hb : Blk wr (H + 1) 4 [.bool false])
    (b1 : Blk wr H 32 [.slice A1 rows.length c1]) (o1 : wr.ownsRow (H + 4) 27 1 (.slice A1 rows.length c1) rows.length gs) (hp : PtsR (H + 4) wr (.slice A1 rows.length c1) gs rows) (hs : Sl wr A1 rows.length 1 gs)
    (eW : W = (wr.setCell ⟨H, 0, none⟩ (.slice A1 k c1)).setCell ⟨H + 1, 0, none⟩ (.bool true)) :
    KeptTold rows w (.returned (.tuple #[.slice A1 k c1, .bool true])) W ∧ W.cell? ⟨H, 0, none⟩ = some (.slice A1 k c1) ∧ W.cell? ⟨H + 1, 0, none⟩ = some (.bool true) := by
  subst eW hk
  have hlow := h.low
  have keep : ∀ b, H + 4 ≤ b → ((wr.setCell ⟨H, 0, none⟩ (.slice A1 rows.length c1)).setCell ⟨H + 1, 0, none⟩ (.bool true)).heap[b]? = wr.heap[b]? := fun b hb =>
    (Below.heap_setCell _ _ _ _ (by show b ≠ H + 1; omega)).trans (Below.heap_setCell _ _ _ _ (by show b ≠ H; omega))
  refine ⟨⟨A1, c1, gs, rfl, ?_, ?_, hp.1, fun i v xs hv hx => ?_⟩, ?_, ?_⟩
  · have e1 : Mod (fun _ => False) w (wr.setCell ⟨H, 0, none⟩ (.slice A1 rows.length c1)) := h.mod.set (p := ⟨H, 0, none⟩) (.inr hlow) _
    exact e1.set (p := ⟨H + 1, 0, none⟩) (.inr (by show w.heap.size ≤ H + 1; omega)) _
  · exact sl_keep3 hs fun b o e _ => keep b (own_ge3 o1 (by rw [e]; rfl)).1
  · obtain ⟨A, n, c, e, hn, hsl, hA⟩ := hp.2 i v xs hv hx
    exact ⟨A, n, c, e, hn, sl_keep3 hsl fun b o e2 _ => keep b (hA b o e2).1.1⟩
  · exact ((b1.set 0 _).other (a := ⟨H + 1, 0, none⟩) _ (by show H + 1 ≠ H; omega)).at (i := 0) rfl
  · exact ((hb.other (a := ⟨H, 0, none⟩) _ (by show H ≠ H + 1; omega)).set 0 (.bool true)).at (i := 0) rfl

set_option maxRecDepth 100000 in
set_option maxHeartbeats 8000000 in
theorem kkept_at (T : Option Addr) (c m n : Nat) (ds : List Nat) (w : World) (hs : Sl w T m 1 (flts ds)) (hn : 0 < n) (hn2 : n ≤ 101) (hm : m ≤ 2147483647) (hf : ∀ d ∈ ds, Lox.Fin d) :
    Calls Try.prog 18 #[.int .i64 n, .slice T m c] w (KeptTold (rowsOf (runV n) ds m) w) := by
  have hmf : ∀ (fn : Fn) (first cap : Array Value) (w : World), (Instr.makeFunc fn first cap).run Try.prog w = .ok (.func fn first cap) w := fun _ _ _ _ => rfl
  obtain ⟨H, hH⟩ : ∃ H, w.heap.size = H := ⟨_, rfl⟩
  obtain ⟨W2, eW, z2, m2, q0, q1⟩ := kinit2 w H hH
  have HW := Lib.hid (And.intro z2 (And.intro m2 (And.intro q0 q1)))
  have HEW := Lib.hid eW
  have hdl : ds.length = m := by have := hs.1; simpa [flts] using this
  have HS : Hid (Sl w T m 1 (flts ds) ∧ (∀ d ∈ ds, Lox.Fin d) ∧ ds.length = m) := ⟨hs, hf, hdl⟩
  have HH := Lib.hid hH
  clear hs hf hdl z2 m2 q0 q1 eW
  go_enter_defers Try.func18, Try.ntmps18
  go_wp2_with (go_at_call 40; rw [← HEW.out]; refine (knew_at W2 n hn (by omega)).mono ?_; rintro _ w3 ⟨e3, hk3, hm3⟩; rw [HW.out.1] at e3 hk3; subst e3; have HK3 := Lib.hid (And.intro hk3 hm3); clear hk3 hm3)
  go_loopw [14] (fun i wr => ∃ k : Nat, k ≤ m ∧ i = .int .i64 k ∧ Hid (KLoop H n w wr (runV n (ds.take k)) (rowsOf (runV n) ds k))) (fun i _ => m - (intOf i).toNat)
  case atStart =>
    refine ⟨0, Nat.zero_le _, rfl, ⟨HW.out.2.1.trans HK3.out.2, Nat.le_of_eq HH.out, by omega, ?_, .slice none 0 0, [], HW.out.2.2.1.mod HK3.out.2 (fun h => h), World.ownsRow_nil _ _ _ _, rfl, fun i v xs h => by simp at h⟩, HK3.out.1, HW.out.2.2.2.mod HK3.out.2 (fun h => h)⟩
    have := HK3.out.1.bds.2.1
    omega
  case round =>
    obtain ⟨k, hk, rfl, HR⟩ := hrel
    by_cases hlt : k < m
    · obtain ⟨b, o, v, e1, e2, c1⟩ := HS.out.1.at1 hlt
      have hkd : k < ds.length := by rw [HS.out.2.2]; exact hlt
      rw [flts_getD hkd] at e2
      cases e2
      obtain ⟨d, ed⟩ : ∃ d, d = ds.getD k 0 := ⟨_, rfl⟩
      rw [← ed] at c1
      have hdk : ds[k]? = some d := by rw [ed]; simp [hkd]
      have hd : Lox.Fin d := HS.out.2.1 d (List.mem_of_getElem? hdk)
      have cc : wr.cell? ⟨b, o + k, none⟩ = some (.float .f64 d) := (HR.out.1.mod.cell (lt_of_cell c1) (fun h => h)).trans c1
      obtain ⟨els, hels⟩ : ∃ els, els = runV n (ds.take k) := ⟨_, rfl⟩
      obtain ⟨L, hL⟩ : ∃ L, L = els.length := ⟨_, rfl⟩
      have hkept := runV_kept hn (ds.take k)
      rw [← hels] at hkept
      have hL0 : 0 < L := by rw [hL]; exact hkept.pos hn
      have HR2 : Hid (RW H (H + 4) w wr (rowsOf (runV n) ds k) ∧ KKS wr (H + 2 + 1) (H + 2) L n els ∧ Blk wr (H + 1) 4 [.bool false]) := by
        have := HR.out
        unfold KLoop at this
        rw [← hels, ← hL] at this
        exact this
      have HE : Hid (keepV n els d = runV n (ds.take (k + 1)) ∧ rowsOf (runV n) ds (k + 1) = rowsOf (runV n) ds k ++ [(runV n (ds.take (k + 1))).map shown]) := ⟨by rw [take_snoc' hdk, runV_snoc, hels], rowsOf_succ _ _ _⟩
      have hL20 : 0 < (keepV n els d).length := (keepV_ok d hn hkept).pos hn
      clear ed hkd hdk hels hL hkept
      subst e1
      go_wp2_with (go_at_call 41; refine (kkeep_at _ (H + 2 + 1) (H + 2) L n d _ els (HR2.out.2.1.alloc _) hL0 (by omega) hd).mono ?_; rintro _ w4 ⟨rfl, hk4, hm4⟩; have HK4 := Lib.hid (And.intro hk4 hm4); clear hk4 hm4)
      have hR4 : RW H (H + 4) w w4 (rowsOf (runV n) ds k) := (HR2.out.1.step ((Mod.refl (fun _ => False) wr).alloc _) (fun k h => absurd h (fun h => h))).step HK4.out.2 (fun k h => by omega)
      have hb4 : Blk w4 (H + 1) 4 [.bool false] := (HR2.out.2.2.alloc _).mod HK4.out.2 (by omega)
      obtain ⟨els2, hE2⟩ : ∃ els2, els2 = keepV n els d := ⟨_, rfl⟩
      obtain ⟨L2, hL2⟩ : ∃ L2, L2 = els2.length := ⟨_, rfl⟩
      have hk4 : KKS w4 (H + 2 + 1) (H + 2) L2 n els2 := by
        have := HK4.out.1
        rw [← hE2, ← hL2] at this
        exact this
      have hlc := hk4.bds.2.2.2.2
      rw [← hE2, ← hL2] at hL20
      obtain ⟨v1, gs, b1, o1, hp⟩ := hR4.rows
      have cL := b1.at (i := 0) rfl
      have fL := b1.frozen 0
      have cT := hk4.top.1
      have n1 : v1.ownBlock ≠ some H := fun e => by have := (own_ge3 o1 e).1; omega
      have hL : H < w4.heap.size := b1.lt
      have hsz4 := hR4.size
      have ho1 := o1
      rw [rowsOf_length] at ho1
      obtain ⟨i0, hi0, hz0, hz1, hz2⟩ := info_parts info_rowf
      have HI := Lib.hid (And.intro hi0 (And.intro hz0 (And.intro hz1 hz2)))
      have H4 := Lib.hid (And.intro hR4 (And.intro b1 (And.intro o1 (And.intro hp (And.intro hb4 (And.intro hk4 (And.intro ho1 (And.intro hE2 hL2))))))))
      clear hi0 hz0 hz1 hz2 hR4 b1 o1 hp hb4 hk4 hE2 hL2 HK4 ho1
      refine wp_region_noPanic ?_
      go_region_law
        (first
          | (go_simp; go_at_call 42; (refine (kshow_at _ (H + 2 + 1) (H + 2) L2 n els2 H4.out.2.2.2.2.2.1.drew (by omega)).mono ?_; rintro _ w5 ⟨A2, c2, rfl, hs2, hm2, hb2⟩; have hw5 : Mod (fun _ => False) w4 w5 := ((Mod.refl _ _).drew.trans hm2); have hz := hw5.size; have hL5 : H < w5.heap.size := (by omega); have cL5 : w5.cell? ⟨H, 0, none⟩ = some v1 := (hw5.cell hL (fun h => h)).trans cL))
          | ((refine step_append_lies _ (by rfl) _ _ _ (by rfl) (H + 4) 27 i0 _ 1 24 Try.underlying32 HI.out.1 HI.out.2.1 HI.out.2.2.1 HI.out.2.2.2 rfl (by omega) v1 k gs (by rfl) ((H4.out.2.2.2.2.2.2.1.kept hw5.grownBy (Decidable.em _)).alloc _) ⟨w5.heap.size, 0, none⟩ 1 1 [.slice A2 L2 c2] (by rfl) (by rfl) (World.news_of_block (cs := #[.slice A2 L2 c2]) (t := 27) (fr := (0, 0)) (heap_alloc_new w5 _)) (by simp [Value.oneCell']) (by omega) (by unfold maxLen; omega) (by omega) (by simp; omega) (w5.heap.size + 1) (by simp) ?_; intro gg gcap w6 hown6 hgrow hat hlt6; have cL6 : w6.cell? ⟨H, 0, none⟩ = some v1 := (hgrow.cell_far _ (by rw [World.size_alloc]; exact Nat.lt_succ_of_lt hL5) (Ne.symm n1)).trans ((World.cell?_alloc_past _ _ _ hL5).trans cL5); have fz6 : w6.frozen? ⟨H, 0, none⟩ = false := (hgrow.frozen_far _ (by rw [World.size_alloc]; exact Nat.lt_succ_of_lt hL5) (Ne.symm n1)).trans ((World.frozen?_alloc_past _ _ _ hL5).trans ((hw5.frozen hL (fun h => h)).trans fL)))))
      all_goals
        refine NoPanic.normal ?_
        have hown6' : w6.ownsRow (H + 4) 27 1 (.slice (some ⟨gg, 0, none⟩) ((rowsOf (runV n) ds k).length + 1) gcap) ((rowsOf (runV n) ds k).length + 1) (gs ++ [.slice A2 L2 c2]) := by rw [rowsOf_length]; exact hown6
        have hP := H4.out.1.push H4.out.2.1 H4.out.2.2.1 H4.out.2.2.2.1 hw5 hs2 (fun b o e => ⟨hb2 b o e, hs2.far (by omega) hL20 b o e⟩) (by omega) hown6' hgrow hat
        rw [rowsOf_length] at hP
        have HP := Lib.hid (And.intro hP (And.intro hs2 hb2))
        clear hown6 hown6' hgrow hat hP hs2 hb2
        go_wp2_with fail
        go_roundw
        case rel =>
          refine ⟨k + 1, by omega, by go_num, ?_⟩
          unfold KLoop
          rw [HE.out.2, ← HE.out.1, ← H4.out.2.2.2.2.2.2.2.1, ← H4.out.2.2.2.2.2.2.2.2]
          refine ⟨HP.out.1.1, KS.blocks H4.out.2.2.2.2.2.1 (HP.out.1.2 _ (by omega) (by omega)) (HP.out.1.2 _ (by omega) (by omega)), ?_⟩
          have hb := H4.out.2.2.2.2.1
          unfold Blk at hb ⊢
          exact (HP.out.1.2 (H + 1) (by omega) (by omega)).trans hb
        case measure => simp [intOf]; omega
    · obtain rfl : k = m := by omega
      obtain ⟨v1, gs, b1, o1, hp⟩ := HR.out.1.rows
      have cL := b1.at (i := 0) rfl
      have fL := b1.frozen 0
      have cB := HR.out.2.2.at (i := 0) rfl
      have fB := HR.out.2.2.frozen 0
      obtain ⟨A1, c1, rfl, hs1⟩ := own_sl3 o1
      rw [rowsOf_length] at cL
      have HO := Lib.hid (And.intro b1 (And.intro o1 (And.intro hp hs1)))
      clear b1 o1 hp hs1
      go_wp2_with fail
      obtain ⟨W, eW⟩ : ∃ W, W = (wr.setCell ⟨H, 0, none⟩ (.slice A1 k c1)).setCell ⟨H + 1, 0, none⟩ (.bool true) := ⟨_, rfl⟩
      have hfin := kept_end (rows := rowsOf (runV n) ds k) (k := k) (by rw [rowsOf_length]) HR.out.1 HR.out.2.2 HO.out.1 HO.out.2.1 HO.out.2.2.1 HO.out.2.2.2 eW
      rw [← eW]
      have HF := Lib.hid hfin
      obtain ⟨_, r1, r2⟩ := hfin
      clear eW
      refine leaves_cons (f := 39) (args := #[.pointer (some ⟨H, 0, none⟩), .pointer (some ⟨H + 1, 0, none⟩)]) (by simp) (by simp [go_sem]) ?_
      refine (kcatch_idle ⟨H, 0, none⟩ ⟨H + 1, 0, none⟩ _).mono ?_
      rintro e u' w'' ⟨rfl, rfl, rfl⟩
      simp [Leaves, settle, results, Try.results18, go_sem, r1, r2]
      exact HF.out.1
end Go.Proofs.Ytncpdjlladlalaa.V
