/- The walk of SquaresTo. Conditions: as it says. -/
import Derived.Test.YtmeooadgdagiiaaTnWith
namespace Go.Proofs.Ytmeooadgdagiiaa
open Go.RowKit Lox
set_option linter.unusedVariables false
attribute [local go_sem] run_store_flt run_store_fn

/-- Numbers that have been laid in order so far, in a row of their own. -/
structure SQ (w w' : World) (v : Value) (k : Nat) (ns : List Int) (ws : List Nat) : Prop where
  own : w'.ownsRow w.heap.size 27 1 v k (flts ws)
  up : Up ws
  gn : ∀ y ∈ ws, Gn y
  perm : (ws.map zv).Perm ns
  mod : Mod (fun _ => False) w w'

theorem SQ.step {w w' w1 w2 : World} {v : Value} {k r : Nat} {ns : List Int} {n : Int} {ws : List Nat} {e : Ending} (h : SQ w w' v k ns ws) (h1 : Mod (fun _ => False) w' w1) (hr : Gd 0 r n) (hw : WithTold w.heap.size k v ws r w1 e w2) :
    ∃ (g cap : Nat) (ws' : List Nat), e = .returned (.slice (some ⟨g, 0, none⟩) (k + 1) cap) ∧ SQ w w2 (.slice (some ⟨g, 0, none⟩) (k + 1) cap) (k + 1) (ns ++ [n]) ws' := by
  obtain ⟨g, cap, i, rfl, a1, a2, a3, a4, a5, a6⟩ := hw
  have hl : ws.length = k := by have := h.own.1; simpa [flts] using this
  have hp := insAt_perm ws r i
  refine ⟨g, cap, insAt ws r i, rfl, a1, insAt_up h.up (by omega) a3 a4, fun y hy => ?_, ?_, (h.mod.trans h1).trans' a5 fun j hj e => ?_⟩
  · rcases List.mem_cons.1 (hp.mem_iff.1 hy) with rfl | hy
    · exact ⟨n, hr⟩
    · exact h.gn y hy
  · refine (hp.map zv).trans ?_
    rw [List.map_cons, zv_eq hr]
    exact (List.Perm.cons n h.perm).trans (List.perm_append_comm (l₁ := [n]) (l₂ := ns))
  · have := (own_block h.own e).1
    omega

/-- What SquaresTo tells. -/
def SqTold (n : Nat) (ns : List Int) (w : World) (e : Ending) (w' : World) : Prop :=
  ∃ (V : Option Addr) (c : Nat) (ws : List Nat), e = .returned (.slice V n c) ∧ Sl w' V n 1 (flts ws) ∧ n ≤ c ∧ c ≤ 9223372036854775807 ∧ Up ws ∧ (∀ y ∈ ws, Gn y) ∧ (ws.map zv).Perm ns ∧ Mod (fun _ => False) w w'

theorem SQ.told {w w' : World} {v : Value} {n : Nat} {ns : List Int} {ws : List Nat} (h : SQ w w' v n ns ws) : SqTold n ns w (.returned v) w' := by
  rcases h.own.2 with ⟨rfl, h0⟩ | ⟨g, cap, cur, rfl, hB, hg, hc, hcm, hsz, ht⟩
  · subst h0
    exact ⟨none, 0, ws, rfl, ⟨by have := h.own.1; simpa using this, fun h => by omega⟩, Nat.le_refl _, by omega, h.up, h.gn, h.perm, h.mod⟩
  · refine ⟨_, _, ws, rfl, ⟨h.own.1, fun _ => ⟨g, 0, rfl, fun j u hu => ?_⟩⟩, hc, by unfold maxLen at hcm; exact hcm, h.up, h.gn, h.perm, h.mod⟩
    rw [Nat.zero_add]
    exact (own_at h.own hu).1

set_option maxHeartbeats 4000000 in
theorem squares_at (A : Option Addr) (n c dims : Nat) (ps : List TP) (q : TP) (w : World) (hp : PRows w A n ps dims) (hg : ∀ p ∈ ps, p.Gr) (hq : q.Ok w dims) (gq : q.Gr) (hn : n ≤ 2147483647) (hdm : dims ≤ 4) :
    Calls Try.prog 24 #[.slice A n c, .slice q.A dims q.c] w (SqTold n (ps.map fun p => sqx p.xs q.xs dims) w) := by
  have HH := Lib.hid (And.intro hp (And.intro hg (And.intro hq gq)))
  clear hp hg hq gq
  go_enter Try.func24, Try.ntmps24
  go_wp2
  go_loopw [5, 10] (fun v i w' => ∃ (k : Nat) (ws : List Nat), k ≤ n ∧ i = .int .i64 k ∧ Hid (SQ w w' v k ((ps.take k).map fun p => sqx p.xs q.xs dims) ws)) (fun _ i _ => n - (intOf i).toNat)
  case atStart => exact ⟨0, [], Nat.zero_le _, rfl, World.ownsRow_nil _ _ _ _, List.Pairwise.nil, fun y hy => (by cases hy), List.Perm.refl _, Mod.refl _ _⟩
  case round =>
    obtain ⟨k, ws, hk, rfl, HR⟩ := hrel
    by_cases hlt : k < n
    · have hpi := HH.out.1.mod HR.out.mod
      obtain ⟨b, o, v0, e1, e2, c1⟩ := hpi.1.at1 hlt
      have hk2 : k < ps.length := by have := hpi.len; omega
      obtain ⟨p, ep⟩ : ∃ p, p = ps[k] := ⟨_, rfl⟩
      have hpm : p ∈ ps := by rw [ep]; exact List.getElem_mem hk2
      have hTK : ps.take (k + 1) = ps.take k ++ [p] := by rw [List.take_succ_eq_append_getElem hk2, ep]
      have e3 : (ps.map TP.v)[k]? = some p.v := by rw [ep]; simp [hk2]
      rw [e3] at e2
      cases e2
      obtain ⟨hrd, hpl⟩ := hpi.2 p hpm
      have c2 : wr.cell? ⟨b, o + k, none⟩ = some (.slice p.A dims p.c) := by rw [c1, ← hpl]; rfl
      have HS := Lib.hid (And.intro (show p.Ok wr dims from ⟨hpl, hrd.1⟩) (And.intro (HH.out.2.2.1.mod0 HR.out.mod) (And.intro (HH.out.2.1 p hpm) hTK)))
      subst e1
      clear hpi ep hpm hTK e3 c1 hrd hpl hk2
      have i0' : (0 : Int) ≤ k := by omega
      have i1' : (k : Int) < n := by omega
      go_wp2_with (first
        | (go_at_call 51; refine (square_at wr dims p q HS.out.1 HS.out.2.1 HS.out.2.2.1 HH.out.2.2.2 hdm).mono ?_; rintro _ w1 ⟨⟨r, rfl, hr⟩, m1, rfl⟩; have H1 := Lib.hid hr; clear hr)
        | (go_at_call 53; refine (with_at w.heap.size k _ ws r _ (HR.out.own.kept (Mod.grownBy ((Mod.refl _ wr).drewN m1)) (Decidable.em _)) (by omega) (HR.out.mod.drewN m1).size HR.out.gn ⟨_, H1.out⟩).mono ?_; rintro _ w2 hw; obtain ⟨g, cap, ws', rfl, hs⟩ := HR.out.step ((Mod.refl _ wr).drewN m1) H1.out hw; have H2 := Lib.hid hs; clear hs hw))
      go_roundw
      case rel =>
        refine ⟨k + 1, ws', by omega, by go_num, ?_⟩
        have h := H2.out
        rw [HS.out.2.2.2, List.map_append]
        exact h
      case measure => simp [intOf]; omega
    · obtain rfl : k = n := by omega
      go_wp2
      go_ret
      have h := HR.out
      rw [List.take_of_length_le (by have := HH.out.1.len; omega)] at h
      exact h.told
end Go.Proofs.Ytmeooadgdagiiaa
