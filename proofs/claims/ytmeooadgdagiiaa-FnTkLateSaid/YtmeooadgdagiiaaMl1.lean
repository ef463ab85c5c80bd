/- Steps of a proof, one behind another: The walk of the reference's LeastBox. Rows of nodes in any order, and what Put does to them, in plain Lean. The memory of Put: the rows and the new node. Conditions: as each theorem says. -/
import Derived.Test.YtmeooadgdagiiaaMr22
import Derived.Deep.DeepCutAuto
import Derived.BigRegion
import Derived.Deep.LoopGhost
import Derived.Deep.CutBlock

namespace Lox
open Go Go.RowKit
set_option linter.unusedVariables false
/-- The word that the built-in min picks of two numbers that can be compared. -/
def minB (x y : Nat) : Nat := match FloatKind.f64.format.order x y with
  | some .lt => x
  | some .gt => y
  | _ => if (FloatKind.f64.decode x).neg then x else y
/-- The word that the built-in max picks. -/
def maxB (x y : Nat) : Nat := match FloatKind.f64.format.order x y with
  | some .lt => y
  | some .gt => x
  | _ => if (FloatKind.f64.decode x).neg then y else x

theorem wh_cases {x y : Nat} {a b : Int} (hx : Wh x a) (hy : Wh y b) : (FloatKind.f64.format.order x y = some .lt ∧ a < b) ∨ (FloatKind.f64.format.order x y = some .gt ∧ b < a) ∨ (FloatKind.f64.format.order x y = some .eq ∧ a = b) := by
  by_cases h : a < b
  · exact .inl ⟨eq_of_beq (by rw [hx.1.lt hy.1, decide_eq_true h]), h⟩
  · by_cases h2 : b < a
    · exact .inr (.inl ⟨eq_of_beq (by rw [hx.1.gt hy.1, decide_eq_true h2]), h2⟩)
    · have h3 : a = b := by omega
      exact .inr (.inr ⟨eq_of_beq (by rw [hx.1.eq hy.1, decide_eq_true h3]), h3⟩)

theorem minB_wh {x y : Nat} {a b : Int} (hx : Wh x a) (hy : Wh y b) : Wh (minB x y) (min a b) := by
  unfold minB
  rcases wh_cases hx hy with ⟨e, h⟩ | ⟨e, h⟩ | ⟨e, h⟩ <;> rw [e] <;> simp only
  · rw [Int.min_eq_left (by omega)]; exact hx
  · rw [Int.min_eq_right (by omega)]; exact hy
  · subst h
    rw [Int.min_self]
    split
    · exact hx
    · exact hy

theorem maxB_wh {x y : Nat} {a b : Int} (hx : Wh x a) (hy : Wh y b) : Wh (maxB x y) (max a b) := by
  unfold maxB
  rcases wh_cases hx hy with ⟨e, h⟩ | ⟨e, h⟩ | ⟨e, h⟩ <;> rw [e] <;> simp only
  · rw [Int.max_eq_right (by omega)]; exact hy
  · rw [Int.max_eq_left (by omega)]; exact hx
  · subst h
    rw [Int.max_self]
    split
    · exact hy
    · exact hx

theorem run_minB {P : Program} {x y : Nat} {a b : Int} (hx : Wh x a) (hy : Wh y b) (ts : Array TypeId) (t : TypeId) (w : World) : (Builtin.min_ ts t #[.float .f64 x, .float .f64 y]).run P w = .ok (.float .f64 (minB x y)) w := by
  unfold minB
  rcases wh_cases hx hy with ⟨e, h⟩ | ⟨e, h⟩ | ⟨e, h⟩ <;> simp [Builtin.min_, Builtin.min2, e, go_sem]

theorem run_maxB {P : Program} {x y : Nat} {a b : Int} (hx : Wh x a) (hy : Wh y b) (ts : Array TypeId) (t : TypeId) (w : World) : (Builtin.max_ ts t #[.float .f64 x, .float .f64 y]).run P w = .ok (.float .f64 (maxB x y)) w := by
  unfold maxB
  rcases wh_cases hx hy with ⟨e, h⟩ | ⟨e, h⟩ | ⟨e, h⟩ <;> simp [Builtin.max_, Builtin.max2, e, go_sem]

/-- The least box of some points, as the reference reckons it. -/
def lbW (ps : List (List Nat)) : Option (List Nat × List Nat) := ps.foldl (fun o p => match o with
  | none => some (List.zipWith minB p p, List.zipWith maxB p p)
  | some b => some (List.zipWith minB b.1 p, List.zipWith maxB b.2 p)) none

theorem lbW_snoc (ps : List (List Nat)) (p : List Nat) : lbW (ps ++ [p]) = some (match lbW ps with
  | none => (List.zipWith minB p p, List.zipWith maxB p p)
  | some b => (List.zipWith minB b.1 p, List.zipWith maxB b.2 p)) := by
  unfold lbW
  rw [List.foldl_append]
  simp only [List.foldl_cons, List.foldl_nil]
  split <;> rfl
end Lox
namespace Go.Proofs.Ytmeooadgdagiiaa.W
open Go.RowKit Lox
set_option linter.unusedVariables false
attribute [local go_sem] run_store_flt run_store_fn
attribute [local go_sem ↓] Go.wp_at_zero Go.wp_at_succ

/-- Both corners stand in rows of their own, made from B on. -/
structure Cor (B : Nat) (w : World) (dims b1 b2 c1 c2 : Nat) (mn mx : List Nat) : Prop where
  own1 : w.ownsRow B 27 1 (.slice (some ⟨b1, 0, none⟩) dims c1) dims (flts mn)
  own2 : w.ownsRow B 27 1 (.slice (some ⟨b2, 0, none⟩) dims c2) dims (flts mx)
  ne : b1 ≠ b2

/-- What the two corners are by now. -/
def LB (w w' : World) (dims : Nat) (v1 v2 : Value) (F : Option (List Nat × List Nat)) : Prop :=
  Mod (fun _ => False) w w' ∧ match F with
    | none => v1 = .slice none 0 0 ∧ v2 = .slice none 0 0
    | some b => ∃ b1 b2 c1 c2, v1 = .slice (some ⟨b1, 0, none⟩) dims c1 ∧ v2 = .slice (some ⟨b2, 0, none⟩) dims c2 ∧ Cor w.heap.size w' dims b1 b2 c1 c2 b.1 b.2 ∧ (∀ x ∈ b.1, ∃ n, Wh x n) ∧ (∀ x ∈ b.2, ∃ n, Wh x n)

theorem cor_step {B dims b1 b2 c1 c2 k : Nat} {w : World} {mn mx ps : List Nat} (h : Cor B w dims b1 b2 c1 c2 (met minB mn ps k) (met maxB mx ps k)) (h1 : mn.length = ps.length) (h2 : mx.length = ps.length) (hk : k < ps.length) :
    Cor B ((w.setCell ⟨b1, k, none⟩ (.float .f64 (minB (mn.getD k 0) (ps.getD k 0)))).setCell ⟨b2, k, none⟩ (.float .f64 (maxB (mx.getD k 0) (ps.getD k 0)))) dims b1 b2 c1 c2 (met minB mn ps (k + 1)) (met maxB mx ps (k + 1)) := by
  obtain ⟨a2, a3, a4⟩ := h
  have m1 : Mod (fun i => i = b1) w (w.setCell ⟨b1, k, none⟩ (.float .f64 (minB (mn.getD k 0) (ps.getD k 0)))) := (Mod.refl (fun i => i = b1) _).set (p := ⟨b1, k, none⟩) (.inl rfl) _
  have m2 : Mod (fun i => i = b2) (w.setCell ⟨b1, k, none⟩ (.float .f64 (minB (mn.getD k 0) (ps.getD k 0)))) ((w.setCell ⟨b1, k, none⟩ (.float .f64 (minB (mn.getD k 0) (ps.getD k 0)))).setCell ⟨b2, k, none⟩ (.float .f64 (maxB (mx.getD k 0) (ps.getD k 0)))) := (Mod.refl (fun i => i = b2) _).set (p := ⟨b2, k, none⟩) (.inl rfl) _
  refine ⟨?_, ?_, a4⟩
  · have h3 := own_set_at (i := k) a2 (.float .f64 (minB (mn.getD k 0) (ps.getD k 0)))
    rw [flts_set, met_step h1 (by omega)] at h3
    exact own_mod h3 m2 a4
  · have h3 := own_set_at (i := k) (own_mod a3 m1 (fun e => a4 e.symm)) (.float .f64 (maxB (mx.getD k 0) (ps.getD k 0)))
    rw [flts_set, met_step h2 (by omega)] at h3
    exact h3

/-- What LeastBox tells. -/
def LbTold (dims : Nat) (b : List Nat × List Nat) (w : World) (e : Ending) (w' : World) : Prop :=
  ∃ b1 b2 c1 c2, e = .returned (.tuple #[.slice (some ⟨b1, 0, none⟩) dims c1, .slice (some ⟨b2, 0, none⟩) dims c2]) ∧ Cor w.heap.size w' dims b1 b2 c1 c2 b.1 b.2 ∧ (∀ x ∈ b.1, ∃ n, Wh x n) ∧ (∀ x ∈ b.2, ∃ n, Wh x n) ∧ Mod (fun _ => False) w w'

theorem zipB_wh {xs ys : List Nat} (hx : ∀ x ∈ xs, ∃ n, Wh x n) (hy : ∀ x ∈ ys, ∃ n, Wh x n) : (∀ x ∈ List.zipWith minB xs ys, ∃ n, Wh x n) ∧ (∀ x ∈ List.zipWith maxB xs ys, ∃ n, Wh x n) :=
  ⟨zip_wh (fun _ _ h k => by obtain ⟨a, ha⟩ := h; obtain ⟨b, hb⟩ := k; exact ⟨_, minB_wh ha hb⟩) xs ys hx hy, zip_wh (fun _ _ h k => by obtain ⟨a, ha⟩ := h; obtain ⟨b, hb⟩ := k; exact ⟨_, maxB_wh ha hb⟩) xs ys hx hy⟩

set_option maxRecDepth 100000 in
set_option maxHeartbeats 8000000 in
theorem leastBox_at (A : Option Addr) (n c dims : Nat) (ps : List TP) (w : World) (hs : Sl w A n 1 (ps.map TP.v)) (hn0 : 0 < n) (hn : n ≤ 1099511627776) (hp : ∀ p ∈ ps, p.Ok w dims ∧ p.Gr) (hd : 0 < dims ∧ dims ≤ 1099511627776) (F : List Nat × List Nat) (hF : lbW (ps.map TP.xs) = some F) :
    Calls Try.prog 37 #[.slice A n c] w (LbTold dims F w) := by
  obtain ⟨i0, hi0, hz0, hz1, hz2⟩ := info_parts info_f64
  have HI := Lib.hid (And.intro hi0 (And.intro hz0 (And.intro hz1 hz2)))
  clear hi0 hz0 hz1 hz2
  have hpl : ps.length = n := by have := hs.1; simpa using this
  have HS := Lib.hid (And.intro hs (And.intro hp (And.intro hF hpl)))
  clear hs hp hF hpl
  go_enter Try.func37, Try.ntmps37
  go_wp2_with fail
  go_loopw [2, 3, 10] (fun v1 v2 i wr => ∃ k : Nat, k ≤ n ∧ i = .int .i64 k ∧ Hid (LB w wr dims v1 v2 (lbW ((ps.take k).map TP.xs)))) (fun _ _ i _ => n - (intOf i).toNat)
  case atStart => exact ⟨0, Nat.zero_le _, rfl, Mod.refl _ _, rfl, rfl⟩
  case round =>
    obtain ⟨k, hk, rfl, HR⟩ := hrel
    by_cases hlt : k < n
    · have hk2 : k < ps.length := by rw [HS.out.2.2.2]; exact hlt
      obtain ⟨p, ep⟩ : ∃ p, p = ps[k] := ⟨_, rfl⟩
      have hpk : ps[k]? = some p := by rw [ep]; exact List.getElem?_eq_getElem hk2
      obtain ⟨hpo, hpg⟩ := HS.out.2.1 p (List.mem_of_getElem? hpk)
      have hTK : lbW ((ps.take (k + 1)).map TP.xs) = some (match lbW ((ps.take k).map TP.xs) with
          | none => (List.zipWith minB p.xs p.xs, List.zipWith maxB p.xs p.xs)
          | some b => (List.zipWith minB b.1 p.xs, List.zipWith maxB b.2 p.xs)) := by
        rw [List.take_succ_eq_append_getElem hk2, ← ep, List.map_append, List.map_cons, List.map_nil, lbW_snoc]
      obtain ⟨b, o, v0, e1, e2, c1⟩ := (HS.out.1.mod HR.out.1).at1 hlt
      have e3 : (ps.map TP.v)[k]? = some p.v := by rw [List.getElem?_map, hpk]; rfl
      rw [e3] at e2
      cases e2
      have c1' : wr.cell? ⟨b, o + k, none⟩ = some (.slice p.A dims p.c) := by rw [c1, ← hpo.1]; rfl
      have hpo' : p.Ok wr dims := hpo.mod0 HR.out.1
      obtain ⟨pb, po, eA, hcs⟩ := hpo'.2.2 (by rw [hpo'.1]; exact hd.1)
      have hpb : pb < w.heap.size := (hpo.2.far (by have := hpo.1; omega)) (by rw [hpo.1]; exact hd.1) pb po eA
      have HPP := Lib.hid (And.intro hpo' (And.intro hpg (And.intro hTK hcs)))
      have HEA := Lib.hid eA
      subst e1
      rw [eA] at c1'
      have hmem : p ∈ ps := List.mem_of_getElem? hpk
      clear hk2 ep hpk hpo hpg hTK e3 c1 hpo' eA hcs
      have i0' : (0 : Int) ≤ k := by omega
      have i1' : (k : Int) < n := by omega
      obtain ⟨F0, eF0⟩ : ∃ F0, F0 = lbW ((ps.take k).map TP.xs) := ⟨_, rfl⟩
      rw [← eF0] at HR HPP
      have HF0 := Lib.hid eF0
      have HMEM := Lib.hid hmem
      clear hmem
      clear eF0
      have tok1 : True := trivial
      go_upto_if 16 with fail
      go_cut [2, 3] from 16 to 22 (fun v1 v2 wx => ∃ b1 b2 c1 c2, v1 = .slice (some ⟨b1, 0, none⟩) dims c1 ∧ v2 = .slice (some ⟨b2, 0, none⟩) dims c2 ∧ Hid (∃ G : List Nat × List Nat, Cor w.heap.size wx dims b1 b2 c1 c2 G.1 G.2 ∧ (∀ x ∈ G.1, ∃ n, Wh x n) ∧ (∀ x ∈ G.2, ∃ n, Wh x n) ∧ Mod (fun _ => False) w wx ∧ lbW ((ps.take (k + 1)).map TP.xs) = some (List.zipWith minB G.1 p.xs, List.zipWith maxB G.2 p.xs)))
      case first =>
        cases F0 with
        | none =>
          have hk0 : k = 0 := by
            rcases Nat.eq_zero_or_pos k with h | h
            · exact h
            · exfalso
              have h1 := HF0.out
              have hk2 : k - 1 < ps.length := by rw [HS.out.2.2.2]; omega
              rw [show k = (k - 1) + 1 from by omega, List.take_succ_eq_append_getElem hk2, List.map_append, List.map_cons, List.map_nil, lbW_snoc] at h1
              cases h1
          subst hk0
          obtain ⟨hm0, e2, e3⟩ := HR.out
          subst e2 e3
          have HM := Lib.hid hm0
          clear hm0
          go_wp2_with (at_builtin; first
            | (have _t := tok1; clear _t tok1; refine wpList_append_lies _ rfl _ _ _ rfl w.heap.size 27 i0 (.float .f64 0) 1 8 Try.underlying26 HI.out.1 HI.out.2.1 HI.out.2.2.1 HI.out.2.2.2 rfl (by decide) (.slice none 0 0) 0 [] rfl (World.ownsRow_nil _ _ _ _) ⟨pb, po, none⟩ dims p.c (flts p.xs) rfl (by have := HPP.out.1.2.1; rw [HPP.out.1.1] at this; exact this) (by intro j u hu; rw [addr_lit]; exact HPP.out.2.2.2 j u hu) (by intro u hu; obtain ⟨z, _, rfl⟩ := List.mem_map.1 hu; rfl) hd.1 (by unfold maxLen; omega) (by omega) HM.out.size wr.heap.size rfl ?_; intro b1 c1 w1 hown1 hgrow1 hat1 hlt1; simp only [Nat.zero_add, List.nil_append] at hown1 ⊢; have H1 := Lib.hid (And.intro hown1 (And.intro (mod_of_grown hgrow1) (And.intro hat1 hlt1))); clear hown1 hgrow1 hat1 hlt1)
            | (refine wpList_append_lies _ rfl _ _ _ rfl w.heap.size 27 i0 (.float .f64 0) 1 8 Try.underlying26 HI.out.1 HI.out.2.1 HI.out.2.2.1 HI.out.2.2.2 rfl (by decide) (.slice none 0 0) 0 [] rfl (World.ownsRow_nil _ _ _ _) ⟨pb, po, none⟩ dims p.c (flts p.xs) rfl (by have := HPP.out.1.2.1; rw [HPP.out.1.1] at this; exact this) (by intro j u hu; rw [addr_lit]; exact (H1.out.2.1.cell (lt_of_cell (HPP.out.2.2.2 j u hu)) (fun h => h)).trans (HPP.out.2.2.2 j u hu)) (by intro u hu; obtain ⟨z, _, rfl⟩ := List.mem_map.1 hu; rfl) hd.1 (by unfold maxLen; omega) (by omega) (by have := HM.out.size; have := H1.out.2.1.size; omega) w1.heap.size rfl ?_; intro b2 c2 w2 hown2 hgrow2 hat2 hlt2; simp only [Nat.zero_add, List.nil_append] at hown2 ⊢; have H2 := Lib.hid (And.intro hown2 (And.intro (mod_of_grown hgrow2) (And.intro hat2 hlt2))); clear hown2 hgrow2 hat2 hlt2))
          go_meet
          refine ⟨b1, b2, c1, c2, rfl, rfl, (p.xs, p.xs), ⟨own_mod H1.out.1 H2.out.2.1 (fun h => h), H2.out.1, ?_⟩, TP.gr_iff.1 HPP.out.2.1, TP.gr_iff.1 HPP.out.2.1, (HM.out.trans H1.out.2.1).trans H2.out.2.1, HPP.out.2.2.1⟩
          have e1 : b1 = wr.heap.size := by
            rcases H1.out.2.2.1 with h | h
            · cases h
            · exact h
          have e2 : b2 = w1.heap.size := by
            rcases H2.out.2.2.1 with h | h
            · cases h
            · exact h
          have := H1.out.2.2.2
          omega
        | some G =>
          have hk0 : ((k : Int) == 0) = false := by
            have : (k : Int) ≠ 0 := by
              intro h
              have h1 := HF0.out
              rw [show k = 0 from by omega] at h1
              cases h1
            simpa using this
          obtain ⟨hm0, b1, b2, c1, c2, e2, e3, hc, g1, g2⟩ := HR.out
          subst e2 e3
          have HG := Lib.hid (And.intro hm0 (And.intro hc (And.intro g1 g2)))
          clear hm0 hc g1 g2
          go_wp2_with fail
          go_meet
          exact ⟨b1, b2, c1, c2, rfl, rfl, G, HG.out.2.1, HG.out.2.2.1, HG.out.2.2.2, HG.out.1, HPP.out.2.2.1⟩
      case rest =>
        obtain ⟨b1, b2, d1, d2, rfl, rfl, HQ⟩ := hcut
        obtain ⟨G, q1, q2, q3, q4, q5⟩ := HQ.out
        obtain ⟨mn, mx⟩ := G
        have hl1 : mn.length = dims := by have := q1.own1.1; simpa [flts] using this
        have hl2 : mx.length = dims := by have := q1.own2.1; simpa [flts] using this
        have o1 := (own_block q1.own1 (b := b1) rfl).1
        have o2 := (own_block q1.own2 (b := b2) rfl).1
        have HPC : Hid (∀ (W : World) (j : Nat), Mod (fun i => i = b1 ∨ i = b2) wc W → j < dims → W.cell? ⟨pb, po + j, none⟩ = some (.float .f64 (p.xs.getD j 0)) ∧ ∃ n, Wh (p.xs.getD j 0) n) := by
          intro W j hm hj
          have hl3 := HPP.out.1.1
          have hc0 := (HS.out.2.1 p (by
            have h := HPP.out.1
            exact HMEM.out)).1.2.2 (by omega)
          obtain ⟨b', o', e', hc'⟩ := hc0
          rw [HEA.out] at e'
          cases e'
          have h1 := hc' j (.float .f64 (p.xs.getD j 0)) (flts_get (by simp [List.getD, hl3, hj]))
          refine ⟨(hm.cell ?_ ?_).trans ((q4.cell (lt_of_cell h1) (fun h => h)).trans h1), TP.gr_iff.1 HPP.out.2.1 _ (mem_getD (by omega))⟩
          · have := lt_of_cell h1; have := q4.size; omega
          · rintro (h | h)
            · have h : pb = b1 := h
              omega
            · have h : pb = b2 := h
              omega
        have HW := Lib.hid (And.intro q2 (And.intro q3 (And.intro q4 (And.intro q5 (And.intro hl1 (And.intro hl2 (And.intro q1.ne HPP.out.1.1)))))))
        have HC0 : Hid (Cor w.heap.size wc dims b1 b2 d1 d2 (met minB mn p.xs 0) (met maxB mx p.xs 0) ∧ Mod (fun i => i = b1 ∨ i = b2) wc wc) := by rw [met_zero, met_zero]; exact ⟨q1, Mod.refl _ _⟩
        clear HQ q1 q2 q3 q4 q5 hl1 hl2 c1'
        go_wp2_with fail
        go_loopw [25] (fun i wl => ∃ j : Nat, j ≤ dims ∧ i = .int .i64 j ∧ Hid (Cor w.heap.size wl dims b1 b2 d1 d2 (met minB mn p.xs j) (met maxB mx p.xs j) ∧ Mod (fun i => i = b1 ∨ i = b2) wc wl)) (fun i _ => dims - (intOf i).toNat)
        case atStart => exact ⟨0, Nat.zero_le _, rfl, HC0.out⟩
        case round =>
          clear HR
          obtain ⟨j, hj, rfl, HR⟩ := hrel
          by_cases hlt2 : j < dims
          · have hl1 := HW.out.2.2.2.2.1
            have hl2 := HW.out.2.2.2.2.2.1
            have hl3 := HW.out.2.2.2.2.2.2.2
            obtain ⟨y1, z1⟩ := own_at HR.out.1.own1 (flts_get (met_get (f := minB) (xs := mn) (ps := p.xs) (by omega) (by omega)))
            obtain ⟨y2, z2⟩ := own_at HR.out.1.own2 (flts_get (met_get (f := maxB) (xs := mx) (ps := p.xs) (by omega) (by omega)))
            obtain ⟨y3, gx⟩ := HPC.out _ j HR.out.2 hlt2
            obtain ⟨g1, wg1⟩ : ∃ n, Wh (mn.getD j 0) n := HW.out.1 _ (mem_getD (by omega))
            obtain ⟨g2, wg2⟩ : ∃ n, Wh (mx.getD j 0) n := HW.out.2.1 _ (mem_getD (by omega))
            obtain ⟨g3, wg3⟩ := gx
            have hmin := fun ts t w => run_minB (P := Try.prog) wg1 wg3 ts t w
            have hmax := fun ts t w => run_maxB (P := Try.prog) wg2 wg3 ts t w
            have hst := cor_step HR.out.1 (by omega) (by omega) (by omega)
            have HST := Lib.hid (And.intro hst (((HR.out.2.set (p := ⟨b1, j, none⟩) (.inl (.inl rfl)) (.float .f64 (minB (mn.getD j 0) (p.xs.getD j 0)))).set (p := ⟨b2, j, none⟩) (.inl (.inr rfl)) (.float .f64 (maxB (mx.getD j 0) (p.xs.getD j 0))))))
            have hbb : b1 ≠ b2 := HR.out.1.ne
            clear hl1 hl2 hl3 wg1 wg2 wg3 hst
            generalize mn.getD j 0 = a at y1 hmin HST
            generalize mx.getD j 0 = b at y2 hmax HST
            generalize p.xs.getD j 0 = x at y3 hmin hmax HST
            generalize minB a x = r1 at hmin HST
            generalize maxB b x = r2 at hmax HST
            have y2' : (wr.setCell ⟨b1, j, none⟩ (.float .f64 r1)).cell? ⟨b2, j, none⟩ = some (.float .f64 b) := (World.cell?_of_block (w := wr) (Below.heap_setCell _ _ _ _ (by show b2 ≠ b1; exact fun h => hbb h.symm))).trans y2
            have i2 : (0 : Int) ≤ j := by omega
            have i3 : (j : Int) < dims := by omega
            go_wp2_with fail
            go_region
            go_wp2_with fail
            go_roundw
            case rel => exact ⟨j + 1, by omega, by go_num, ⟨HST.out.1.own1, HST.out.1.own2, HST.out.1.ne⟩, HST.out.2.drew⟩
            case measure => simp [intOf]; omega
          · obtain rfl : j = dims := by omega
            have hC := HR.out.1
            have e1 : met minB mn p.xs j = List.zipWith minB mn p.xs := by
              have h : j = mn.length := HW.out.2.2.2.2.1.symm
              rw [h]; exact met_end (by have := HW.out.2.2.2.2.2.2.2; omega)
            have e2 : met maxB mx p.xs j = List.zipWith maxB mx p.xs := by
              have h : j = mx.length := HW.out.2.2.2.2.2.1.symm
              rw [h]; exact met_end (by have := HW.out.2.2.2.2.2.2.2; omega)
            rw [e1, e2] at hC
            have hmw : Mod (fun _ => False) w wr := HW.out.2.2.1.trans' HR.out.2 (fun i hi h => by rcases h with h | h <;> omega)
            have HC := Lib.hid (And.intro hC hmw)
            clear hC hmw e1 e2
            go_wp2_with fail
            go_roundw
            case rel =>
              refine ⟨k + 1, by omega, by go_num, ?_⟩
              rw [HW.out.2.2.2.1]
              exact ⟨HC.out.2, b1, b2, d1, d2, rfl, rfl, HC.out.1, (zipB_wh HW.out.1 (TP.gr_iff.1 HPP.out.2.1)).1, (zipB_wh HW.out.2.1 (TP.gr_iff.1 HPP.out.2.1)).2⟩
            case measure => simp [intOf]; omega
    · obtain rfl : k = n := by omega
      have hR := HR.out
      rw [List.take_of_length_le (by rw [HS.out.2.2.2]; exact Nat.le_refl _), HS.out.2.2.1] at hR
      obtain ⟨hm0, b1, b2, c1, c2, rfl, rfl, hc, g1, g2⟩ := hR
      have HG := Lib.hid (And.intro hm0 (And.intro hc (And.intro g1 g2)))
      clear hm0 hc g1 g2
      go_wp2_with fail
      go_ret2
      exact ⟨b1, b2, c1, c2, rfl, HG.out.2.1, HG.out.2.2.1, HG.out.2.2.2, HG.out.1⟩
end Go.Proofs.Ytmeooadgdagiiaa.W

namespace Lox.KB
variable {α β : Type}

theorem swp_map (f : α → β) (l : List α) (i j : Nat) : swp (l.map f) i j = (swp l i j).map f := by
  unfold swp
  rw [List.getElem?_map, List.getElem?_map]
  cases l[i]? <;> cases l[j]? <;> simp [List.map_set]

theorem partLoop_map (f : α → β) {le : α → α → Bool} {le' : β → β → Bool} (h : ∀ a b, le a b = le' (f a) (f b)) (last : Nat) : ∀ (n : Nat) (l : List α) (i idx : Nat), partLoop le' last n (l.map f) i idx = ((partLoop le last n l i idx).1.map f, (partLoop le last n l i idx).2) := by
  intro n
  induction n with
  | zero => intro l i idx; rfl
  | succ n ih =>
    intro l i idx
    unfold partLoop
    rw [List.getElem?_map, List.getElem?_map]
    cases hx : l[i]? with
    | none => rfl
    | some x =>
      cases hp : l[last]? with
      | none => rfl
      | some p =>
        simp only [Option.map_some]
        rw [← h x p]
        split
        · rw [swp_map, ih]
        · rw [ih]

theorem part_map (f : α → β) {le : α → α → Bool} {le' : β → β → Bool} (h : ∀ a b, le a b = le' (f a) (f b)) (l : List α) (k : Nat) : part le' (l.map f) k = ((part le l k).1.map f, (part le l k).2) := by
  unfold part
  simp only [List.length_map, swp_map, partLoop_map f h]

theorem build_map (f : α → β) {le : Nat → α → α → Bool} {le' : Nat → β → β → Bool} (h : ∀ d a b, le d a b = le' d (f a) (f b)) (dims : Nat) : ∀ (n : Nat) (l : List α) (ks : List Nat) (d : Nat), build le' dims n (l.map f) ks d = ((build le dims n l ks d).1.map f, (build le dims n l ks d).2) := by
  intro n
  induction n with
  | zero => intro l ks d; rfl
  | succ n ih =>
    intro l ks d
    unfold build
    simp only [List.length_map, part_map f (h d), List.getElem?_map]
    split
    · rfl
    · cases hp : (part (le d) l (pick l.length ks).1).1[(part (le d) l (pick l.length ks).1).2]? with
      | none => rfl
      | some p => simp only [Option.map_some, ← List.map_take, ← List.map_drop, ih, T.map]

theorem ins_map (f : α → β) {le : Nat → α → α → Bool} {le' : Nat → β → β → Bool} (h : ∀ d a b, le d a b = le' d (f a) (f b)) (dims : Nat) (p : α) : ∀ (t : T α) (d : Nat), ins le' dims (f p) d (t.map f) = (ins le dims p d t).map f := by
  intro t
  induction t with
  | nil => intro d; rfl
  | node q pl l r ihl ihr =>
    intro d
    simp only [ins, T.map, ← h]
    split
    · simp only [T.map, ihl]
    · simp only [T.map, ihr]

theorem inss_map (f : α → β) {le : Nat → α → α → Bool} {le' : Nat → β → β → Bool} (h : ∀ d a b, le d a b = le' d (f a) (f b)) (dims : Nat) : ∀ (ps : List α) (t : T α), inss le' dims (t.map f) (ps.map f) = (inss le dims t ps).map f := by
  intro ps
  induction ps with
  | nil => intro t; rfl
  | cons p ps ih =>
    intro t
    show inss le' dims (ins le' dims (f p) 0 (t.map f)) (ps.map f) = _
    rw [ins_map f h, ih]
    rfl

theorem ins_any {le : Nat → α → α → Bool} {dims : Nat} {p : α} {t : T α} (h : t ≠ .nil) (d e : Nat) : ins le dims p d t = ins le dims p e t := by
  cases t with
  | nil => exact absurd rfl h
  | node => rfl
end Lox.KB
namespace Go.Proofs.Ytmeooadgdagiiaa.W
open Go.RowKit Lox
set_option linter.unusedVariables false

/-- A tree by the places of its nodes in a list. -/
inductive IT where
  | nil
  | node (k : Nat) (xs : List Nat) (d : Nat) (l r : IT)

def IT.T : IT → KB.T (List Nat)
  | .nil => .nil
  | .node _ xs d l r => .node xs d l.T r.T
def IT.ids : IT → List Nat
  | .nil => []
  | .node k _ _ l r => k :: (l.ids ++ r.ids)

/-- A node's box: the least one of the points on it and below it, or none. -/
def BxOk (dims : Nat) (b : Bool) (ps : List (List Nat)) (mn mx : List Nat) : Prop := if b = true then BoxOf dims ps mn mx else mn = [] ∧ mx = []

/-- In the rows, from place i on, such a tree is written down. -/
def Rep (dims : Nat) (b : Bool) (R : List PR) : IT → Int → Prop
  | .nil, i => i = -1
  | .node k xs d l r, i => i = k ∧ ∃ x : PR, R[k]? = some x ∧ x.xs = xs ∧ x.pl = d ∧ BxOk dims b (IT.node k xs d l r).T.all x.mn x.mx ∧ Rep dims b R l x.l ∧ Rep dims b R r x.r

theorem Rep.keep {dims : Nat} {b : Bool} {R R' : List PR} : ∀ {t : IT} {i : Int}, Rep dims b R t i → (∀ j ∈ t.ids, R'[j]? = R[j]?) → Rep dims b R' t i := by
  intro t
  induction t with
  | nil => intro i h _; exact h
  | node k xs d l r ihl ihr =>
    rintro i ⟨e, x, hx, h1, h2, h3, h4, h5⟩ hk
    exact ⟨e, x, by rw [hk k (by simp [IT.ids])]; exact hx, h1, h2, h3, ihl h4 fun j hj => hk j (by simp [IT.ids, hj]), ihr h5 fun j hj => hk j (by simp [IT.ids, hj])⟩

theorem Rep.lt {dims : Nat} {b : Bool} {R : List PR} : ∀ {t : IT} {i : Int}, Rep dims b R t i → ∀ j ∈ t.ids, j < R.length := by
  intro t
  induction t with
  | nil => intro i _ j hj; cases hj
  | node k xs d l r ihl ihr =>
    rintro i ⟨e, x, hx, h1, h2, h3, h4, h5⟩ j hj
    rcases List.mem_cons.1 hj with rfl | hj
    · exact (List.getElem?_eq_some_iff.1 hx).1
    · rcases List.mem_append.1 hj with hj | hj
      · exact ihl h4 j hj
      · exact ihr h5 j hj

theorem BxOk.iff {dims : Nat} {b : Bool} {ps qs : List (List Nat)} {mn mx : List Nat} (h : BxOk dims b ps mn mx) (hm : ∀ p, p ∈ qs ↔ p ∈ ps) : BxOk dims b qs mn mx := by
  unfold BxOk at *
  split
  · rename_i hb; rw [if_pos hb] at h; exact h.iff hm
  · rename_i hb; rw [if_neg hb] at h; exact h

/-- What is still to be shown of the whole, once the point stands in the tree that hangs at place i. -/
def Cont (dims : Nat) (b : Bool) (N : Nat) (q : List Nat) (T : IT) (R : List PR) (S : IT) (i : Int) : Prop :=
  ∀ (R' : List PR) (S' : IT), R'.length = N + 1 → (∀ j, j < N → j ∉ S.ids → R'[j]? = R[j]?) → Rep dims b R' S' i → S'.T = KB.ins leX dims q 0 S.T → (∀ j ∈ S'.ids, j ∈ S.ids ∨ j = N) → S'.ids.Nodup →
    ∃ T' : IT, Rep dims b R' T' 0 ∧ T'.T = KB.ins leX dims q 0 T.T ∧ (∀ j ∈ T'.ids, j ∈ T.ids ∨ j = N) ∧ T'.ids.Nodup

theorem cont_first {dims N : Nat} {b : Bool} {q : List Nat} {T : IT} {R : List PR} : Cont dims b N q T R T 0 := fun R' S' _ _ h1 h2 h3 h4 => ⟨S', h1, h2, h3, h4⟩

theorem ins_mem {dims d : Nat} {q : List Nat} {t t' : KB.T (List Nat)} (h : t' = KB.ins leX dims q d t) (y : List Nat) : y ∈ t'.all ↔ y = q ∨ y ∈ t.all := by
  rw [h, (KB.ins_perm leX dims q t d).mem_iff, List.mem_cons]

/-- The point goes on to the left. -/
theorem cont_left {dims N k d : Nat} {b : Bool} {q xs : List Nat} {T l r : IT} {R R1 : List PR} {i : Int} {x y : PR} (hc : Cont dims b N q T R (.node k xs d l r) i) (hi : i = k) (hkN : k < N) (hn : (IT.node k xs d l r).ids.Nodup) (hx : R[k]? = some x) (hR1 : R1 = R.set k y) (hlen : R.length = N) (hy : y.xs = xs ∧ y.pl = d ∧ y.l = x.l ∧ y.r = x.r) (hb : BxOk dims b (q :: (IT.node k xs d l r).T.all) y.mn y.mx) (hr : Rep dims b R r x.r) (hle : leX d q xs = true) (hne : l ≠ .nil) :
    Cont dims b N q T R1 l x.l := by
  intro R' S' h1 h2 h3 h4 h5 h6
  obtain ⟨n1, n2⟩ := List.nodup_cons.1 hn
  obtain ⟨n3, n4, n5⟩ := List.nodup_append.1 n2
  have hkR : k < R.length := by omega
  have hset : ∀ j, j ≠ k → R1[j]? = R[j]? := fun j hj => by rw [hR1]; exact List.getElem?_set_ne (Ne.symm hj)
  have hk1 : R'[k]? = some y := by
    rw [h2 k hkN (fun h => n1 (List.mem_append.2 (.inl h))), hR1]
    exact List.getElem?_set_self hkR
  have hrN : ∀ j ∈ r.ids, j < N := fun j hj => by have := hr.lt j hj; omega
  refine hc R' (.node k xs d S' r) h1 (fun j hj hj2 => ?_) ⟨hi, y, hk1, hy.1, hy.2.1, hb.iff fun p => ?_, by rw [hy.2.2.1]; exact h3, ?_⟩ ?_ (fun j hj => ?_) ?_
  · simp only [IT.ids, List.mem_cons, List.mem_append, not_or] at hj2
    rw [h2 j hj hj2.2.1, hset j hj2.1]
  · have := ins_mem h4 p
    simp only [IT.T, KB.T.all, List.mem_append, List.mem_cons, this]
    constructor
    · rintro ((h | h) | h | h)
      · exact .inl h
      · exact .inr (.inl h)
      · exact .inr (.inr (.inl h))
      · exact .inr (.inr (.inr h))
    · rintro (h | h | h | h)
      · exact .inl (.inl h)
      · exact .inl (.inr h)
      · exact .inr (.inl h)
      · exact .inr (.inr h)
  · rw [hy.2.2.2]
    refine hr.keep fun j hj => ?_
    rw [h2 j (hrN j hj) (fun h => n5 j h j hj rfl), hset j (fun e => n1 (e ▸ List.mem_append.2 (.inr hj)))]
  · simp only [IT.T, KB.ins, hle, if_true]
    rw [h4, KB.ins_any (t := l.T) (by cases l with | nil => exact absurd rfl hne | node => intro h; cases h) 0 ((d + 1) % dims)]
  · have hj : j ∈ k :: (S'.ids ++ r.ids) := hj
    simp only [IT.ids, List.mem_cons, List.mem_append] at hj ⊢
    rcases hj with h | h | h
    · exact .inl (.inl h)
    · rcases h5 j h with h | h
      · exact .inl (.inr (.inl h))
      · exact .inr h
    · exact .inl (.inr (.inr h))
  · show (k :: (S'.ids ++ r.ids)).Nodup
    refine List.nodup_cons.2 ⟨fun h => ?_, List.nodup_append.2 ⟨h6, n4, fun a ha c hcc e => ?_⟩⟩
    · rcases List.mem_append.1 h with h | h
      · rcases h5 k h with h | h
        · exact n1 (List.mem_append.2 (.inl h))
        · omega
      · exact n1 (List.mem_append.2 (.inr h))
    · subst e
      rcases h5 a ha with h | h
      · exact n5 a h a hcc rfl
      · have := hrN a hcc; omega

/-- The point goes on to the right. -/
theorem cont_right {dims N k d : Nat} {b : Bool} {q xs : List Nat} {T l r : IT} {R R1 : List PR} {i : Int} {x y : PR} (hc : Cont dims b N q T R (.node k xs d l r) i) (hi : i = k) (hkN : k < N) (hn : (IT.node k xs d l r).ids.Nodup) (hx : R[k]? = some x) (hR1 : R1 = R.set k y) (hlen : R.length = N) (hy : y.xs = xs ∧ y.pl = d ∧ y.l = x.l ∧ y.r = x.r) (hb : BxOk dims b (q :: (IT.node k xs d l r).T.all) y.mn y.mx) (hl : Rep dims b R l x.l) (hle : leX d q xs = false) (hne : r ≠ .nil) :
    Cont dims b N q T R1 r x.r := by
  intro R' S' h1 h2 h3 h4 h5 h6
  obtain ⟨n1, n2⟩ := List.nodup_cons.1 hn
  obtain ⟨n3, n4, n5⟩ := List.nodup_append.1 n2
  have hkR : k < R.length := by omega
  have hset : ∀ j, j ≠ k → R1[j]? = R[j]? := fun j hj => by rw [hR1]; exact List.getElem?_set_ne (Ne.symm hj)
  have hk1 : R'[k]? = some y := by
    rw [h2 k hkN (fun h => n1 (List.mem_append.2 (.inr h))), hR1]
    exact List.getElem?_set_self hkR
  have hlN : ∀ j ∈ l.ids, j < N := fun j hj => by have := hl.lt j hj; omega
  refine hc R' (.node k xs d l S') h1 (fun j hj hj2 => ?_) ⟨hi, y, hk1, hy.1, hy.2.1, hb.iff fun p => ?_, ?_, by rw [hy.2.2.2]; exact h3⟩ ?_ (fun j hj => ?_) ?_
  · simp only [IT.ids, List.mem_cons, List.mem_append, not_or] at hj2
    rw [h2 j hj hj2.2.2, hset j hj2.1]
  · have := ins_mem h4 p
    simp only [IT.T, KB.T.all, List.mem_append, List.mem_cons, this]
    constructor
    · rintro (h | h | h | h)
      · exact .inr (.inl h)
      · exact .inr (.inr (.inl h))
      · exact .inl h
      · exact .inr (.inr (.inr h))
    · rintro (h | h | h | h)
      · exact .inr (.inr (.inl h))
      · exact .inl h
      · exact .inr (.inl h)
      · exact .inr (.inr (.inr h))
  · rw [hy.2.2.1]
    refine hl.keep fun j hj => ?_
    rw [h2 j (hlN j hj) (fun h => n5 j hj j h rfl), hset j (fun e => n1 (e ▸ List.mem_append.2 (.inl hj)))]
  · simp only [IT.T, KB.ins, hle, if_false, Bool.false_eq_true]
    rw [h4, KB.ins_any (t := r.T) (by cases r with | nil => exact absurd rfl hne | node => intro h; cases h) 0 ((d + 1) % dims)]
  · have hj : j ∈ k :: (l.ids ++ S'.ids) := hj
    simp only [IT.ids, List.mem_cons, List.mem_append] at hj ⊢
    rcases hj with h | h | h
    · exact .inl (.inl h)
    · exact .inl (.inr (.inl h))
    · rcases h5 j h with h | h
      · exact .inl (.inr (.inr h))
      · exact .inr h
  · show (k :: (l.ids ++ S'.ids)).Nodup
    refine List.nodup_cons.2 ⟨fun h => ?_, List.nodup_append.2 ⟨n3, h6, fun a ha c hcc e => ?_⟩⟩
    · rcases List.mem_append.1 h with h | h
      · exact n1 (List.mem_append.2 (.inl h))
      · rcases h5 k h with h | h
        · exact n1 (List.mem_append.2 (.inr h))
        · omega
    · subst e
      rcases h5 a hcc with h | h
      · exact n5 a ha a h rfl
      · have := hlN a ha; omega

/-- The point hangs on the left of the node. -/
theorem cont_hang_left {dims N k d : Nat} {b : Bool} {q xs : List Nat} {T r : IT} {R R' : List PR} {i : Int} {x y o : PR} (hc : Cont dims b N q T R (.node k xs d .nil r) i) (hi : i = k) (hkN : k < N) (hn : (IT.node k xs d .nil r).ids.Nodup) (hx : R[k]? = some x) (hR' : R' = R.set k y ++ [o]) (hlen : R.length = N) (hy : y.xs = xs ∧ y.pl = d ∧ y.l = N ∧ y.r = x.r) (hb : BxOk dims b (q :: (IT.node k xs d .nil r).T.all) y.mn y.mx) (hr : Rep dims b R r x.r) (hle : leX d q xs = true)
    (ho : o.xs = q ∧ o.pl = (d + 1) % dims ∧ o.l = -1 ∧ o.r = -1) (hob : BxOk dims b [q] o.mn o.mx) : ∃ T' : IT, Rep dims b R' T' 0 ∧ T'.T = KB.ins leX dims q 0 T.T ∧ (∀ j ∈ T'.ids, j ∈ T.ids ∨ j = N) ∧ T'.ids.Nodup := by
  obtain ⟨n1, n2⟩ := List.nodup_cons.1 hn
  have n2 : r.ids.Nodup := n2
  have n1 : k ∉ r.ids := n1
  have hrN : ∀ j ∈ r.ids, j < N := fun j hj => by have := hr.lt j hj; omega
  have hset : ∀ j, j < N → j ≠ k → R'[j]? = R[j]? := fun j hj hjk => by
    rw [hR', List.getElem?_append_left (by rw [List.length_set, hlen]; exact hj)]
    exact List.getElem?_set_ne (Ne.symm hjk)
  have hk1 : R'[k]? = some y := by
    rw [hR', List.getElem?_append_left (by rw [List.length_set, hlen]; exact hkN)]
    exact List.getElem?_set_self (by omega)
  have hN1 : R'[N]? = some o := by
    rw [hR', List.getElem?_append_right (by rw [List.length_set, hlen]; exact Nat.le_refl _), List.length_set, hlen, Nat.sub_self]
    rfl
  refine hc R' (.node k xs d (.node N q ((d + 1) % dims) .nil .nil) r) (by rw [hR', List.length_append, List.length_set, hlen]; rfl) (fun j hj hj2 => hset j hj (fun e => hj2 (by simp [IT.ids, e]))) ⟨hi, y, hk1, hy.1, hy.2.1, hb.iff fun p => ?_, ?_, ?_⟩ ?_ (fun j hj => ?_) ?_
  · simp only [IT.T, KB.T.all, List.mem_append, List.mem_cons, List.not_mem_nil, false_or, or_false]
  · rw [hy.2.2.1]
    exact ⟨rfl, o, hN1, ho.1, ho.2.1, hob, ho.2.2.1, ho.2.2.2⟩
  · rw [hy.2.2.2]
    exact hr.keep fun j hj => hset j (hrN j hj) (fun e => n1 (e ▸ hj))
  · simp only [IT.T, KB.ins, hle, if_true]
  · have hj : j ∈ k :: ([N] ++ r.ids) := hj
    simp only [IT.ids, List.mem_cons, List.mem_append, List.not_mem_nil, or_false, false_or] at hj ⊢
    rcases hj with h | h | h
    · exact .inl (.inl h)
    · exact .inr h
    · exact .inl (.inr h)
  · show (k :: (N :: r.ids)).Nodup
    refine List.nodup_cons.2 ⟨fun h => ?_, List.nodup_cons.2 ⟨fun h => by have := hrN N h; omega, n2⟩⟩
    rcases List.mem_cons.1 h with h | h
    · omega
    · exact n1 h

/-- The point hangs on the right of the node. -/
theorem cont_hang_right {dims N k d : Nat} {b : Bool} {q xs : List Nat} {T l : IT} {R R' : List PR} {i : Int} {x y o : PR} (hc : Cont dims b N q T R (.node k xs d l .nil) i) (hi : i = k) (hkN : k < N) (hn : (IT.node k xs d l .nil).ids.Nodup) (hx : R[k]? = some x) (hR' : R' = R.set k y ++ [o]) (hlen : R.length = N) (hy : y.xs = xs ∧ y.pl = d ∧ y.l = x.l ∧ y.r = N) (hb : BxOk dims b (q :: (IT.node k xs d l .nil).T.all) y.mn y.mx) (hl : Rep dims b R l x.l) (hle : leX d q xs = false)
    (ho : o.xs = q ∧ o.pl = (d + 1) % dims ∧ o.l = -1 ∧ o.r = -1) (hob : BxOk dims b [q] o.mn o.mx) : ∃ T' : IT, Rep dims b R' T' 0 ∧ T'.T = KB.ins leX dims q 0 T.T ∧ (∀ j ∈ T'.ids, j ∈ T.ids ∨ j = N) ∧ T'.ids.Nodup := by
  obtain ⟨n1, n2⟩ := List.nodup_cons.1 hn
  have n2 : l.ids.Nodup := by rw [show (l.ids ++ IT.nil.ids) = l.ids from List.append_nil _] at n2; exact n2
  have n1 : k ∉ l.ids := fun h => n1 (List.mem_append.2 (.inl h))
  have hlN : ∀ j ∈ l.ids, j < N := fun j hj => by have := hl.lt j hj; omega
  have hset : ∀ j, j < N → j ≠ k → R'[j]? = R[j]? := fun j hj hjk => by
    rw [hR', List.getElem?_append_left (by rw [List.length_set, hlen]; exact hj)]
    exact List.getElem?_set_ne (Ne.symm hjk)
  have hk1 : R'[k]? = some y := by
    rw [hR', List.getElem?_append_left (by rw [List.length_set, hlen]; exact hkN)]
    exact List.getElem?_set_self (by omega)
  have hN1 : R'[N]? = some o := by
    rw [hR', List.getElem?_append_right (by rw [List.length_set, hlen]; exact Nat.le_refl _), List.length_set, hlen, Nat.sub_self]
    rfl
  refine hc R' (.node k xs d l (.node N q ((d + 1) % dims) .nil .nil)) (by rw [hR', List.length_append, List.length_set, hlen]; rfl) (fun j hj hj2 => hset j hj (fun e => hj2 (by simp [IT.ids, e]))) ⟨hi, y, hk1, hy.1, hy.2.1, hb.iff fun p => ?_, ?_, ?_⟩ ?_ (fun j hj => ?_) ?_
  · simp only [IT.T, KB.T.all, List.mem_append, List.mem_cons, List.not_mem_nil, false_or, or_false]
    constructor
    · rintro (h | h | h)
      · exact .inr (.inl h)
      · exact .inr (.inr h)
      · exact .inl h
    · rintro (h | h | h)
      · exact .inr (.inr h)
      · exact .inl h
      · exact .inr (.inl h)
  · rw [hy.2.2.1]
    exact hl.keep fun j hj => hset j (hlN j hj) (fun e => n1 (e ▸ hj))
  · rw [hy.2.2.2]
    exact ⟨rfl, o, hN1, ho.1, ho.2.1, hob, ho.2.2.1, ho.2.2.2⟩
  · simp only [IT.T, KB.ins, hle, if_false, Bool.false_eq_true]
  · have hj : j ∈ k :: (l.ids ++ [N]) := hj
    simp only [IT.ids, List.mem_cons, List.mem_append, List.not_mem_nil, or_false] at hj ⊢
    rcases hj with h | h | h
    · exact .inl (.inl h)
    · exact .inl (.inr h)
    · exact .inr h
  · show (k :: (l.ids ++ [N])).Nodup
    refine List.nodup_cons.2 ⟨fun h => ?_, List.nodup_append.2 ⟨n2, by simp, fun a ha c hcc e => ?_⟩⟩
    · rcases List.mem_append.1 h with h | h
      · exact n1 h
      · simp at h; omega
    · simp at hcc; have := hlN a ha; omega

/-- The box that the reference reckons of a box and a point more. -/
theorem lb3_box {dims : Nat} {ps : List (List Nat)} {p mn mx : List Nat} (h : BoxOf dims ps mn mx) (hl : p.length = dims) (hp : ∀ x ∈ p, ∃ n, Wh x n) (hne : ps ≠ []) : ∃ F, lbW [mn, mx, p] = some F ∧ BoxOf dims (p :: ps) F.1 F.2 := by
  have l1 := h.lmn
  have l2 := h.lmx
  refine ⟨_, rfl, ?_⟩
  have z1 : ∀ (x y : Nat), (∃ n, Wh x n) → (∃ n, Wh y n) → zi (minB x y) = min (zi x) (zi y) := fun x y hx hy => zi_eq (minB_wh (zi_wh hx) (zi_wh hy))
  have z2 : ∀ (x y : Nat), (∃ n, Wh x n) → (∃ n, Wh y n) → zi (maxB x y) = max (zi x) (zi y) := fun x y hx hy => zi_eq (maxB_wh (zi_wh hx) (zi_wh hy))
  have w0 := zipB_wh h.wmn h.wmn
  have w1 := zipB_wh w0.1 h.wmx
  have w1' := zipB_wh w0.2 h.wmx
  have w2 := zipB_wh w1.1 hp
  have w2' := zipB_wh w1'.2 hp
  have hle : ∀ d, d < dims → zi (mn.getD d 0) ≤ zi (mx.getD d 0) := fun d hd => by
    obtain ⟨q, hq⟩ := List.exists_mem_of_ne_nil ps hne
    have := h.all d hd q hq
    omega
  have k1 : ∀ d, d < dims → zi ((List.zipWith minB (List.zipWith minB (List.zipWith minB mn mn) mx) p).getD d 0) = min (zi (mn.getD d 0)) (zi (p.getD d 0)) := fun d hd => by
    have e1 : d < (List.zipWith minB mn mn).length := by simp; omega
    have e2 : d < (List.zipWith minB (List.zipWith minB mn mn) mx).length := by simp; omega
    rw [zip_getD e2 (by omega), z1 _ _ (w1.1 _ (mem_getD e2)) (hp _ (mem_getD (by omega))), zip_getD e1 (by omega), z1 _ _ (w0.1 _ (mem_getD e1)) (h.wmx _ (mem_getD (by omega))), zip_getD (by omega) (by omega), z1 _ _ (h.wmn _ (mem_getD (by omega))) (h.wmn _ (mem_getD (by omega)))]
    have := hle d hd
    omega
  have k2 : ∀ d, d < dims → zi ((List.zipWith maxB (List.zipWith maxB (List.zipWith maxB mn mn) mx) p).getD d 0) = max (zi (mx.getD d 0)) (zi (p.getD d 0)) := fun d hd => by
    have e1 : d < (List.zipWith maxB mn mn).length := by simp; omega
    have e2 : d < (List.zipWith maxB (List.zipWith maxB mn mn) mx).length := by simp; omega
    rw [zip_getD e2 (by omega), z2 _ _ (w1'.2 _ (mem_getD e2)) (hp _ (mem_getD (by omega))), zip_getD e1 (by omega), z2 _ _ (w0.2 _ (mem_getD e1)) (h.wmx _ (mem_getD (by omega))), zip_getD (by omega) (by omega), z2 _ _ (h.wmn _ (mem_getD (by omega))) (h.wmn _ (mem_getD (by omega)))]
    have := hle d hd
    omega
  refine ⟨by simp; omega, by simp; omega, w2.1, w2'.2, fun d hd q hq => ?_, fun d hd => ?_, fun d hd => ?_⟩
  · show zi ((List.zipWith minB (List.zipWith minB (List.zipWith minB mn mn) mx) p).getD d 0) ≤ _ ∧ _ ≤ zi ((List.zipWith maxB (List.zipWith maxB (List.zipWith maxB mn mn) mx) p).getD d 0)
    rw [k1 d hd, k2 d hd]
    rcases List.mem_cons.1 hq with rfl | hq
    · omega
    · have := h.all d hd q hq; omega
  · show ∃ q ∈ p :: ps, zi ((List.zipWith minB (List.zipWith minB (List.zipWith minB mn mn) mx) p).getD d 0) = zi (q.getD d 0)
    rw [k1 d hd]
    rcases Int.le_total (zi (mn.getD d 0)) (zi (p.getD d 0)) with h3 | h3
    · obtain ⟨q, hq, e⟩ := h.is1 d hd
      exact ⟨q, by simp [hq], by omega⟩
    · exact ⟨p, by simp, by omega⟩
  · show ∃ q ∈ p :: ps, zi ((List.zipWith maxB (List.zipWith maxB (List.zipWith maxB mn mn) mx) p).getD d 0) = zi (q.getD d 0)
    rw [k2 d hd]
    rcases Int.le_total (zi (p.getD d 0)) (zi (mx.getD d 0)) with h3 | h3
    · obtain ⟨q, hq, e⟩ := h.is2 d hd
      exact ⟨q, by simp [hq], by omega⟩
    · exact ⟨p, by simp, by omega⟩
end Go.Proofs.Ytmeooadgdagiiaa.W

namespace Go.Proofs.Ytmeooadgdagiiaa.W
open Go.RowKit Lox
set_option linter.unusedVariables false

theorem own_low6 {w : World} {B B' e n size : Nat} {v : Value} {xs : List Value} (h : w.ownsRow B e size v n xs) (hB : B' ≤ B) : w.ownsRow B' e size v n xs := by
  refine ⟨h.1, ?_⟩
  rcases h.2 with h | ⟨g, cap, cur, e1, hb, rest⟩
  · exact .inl h
  · exact .inr ⟨g, cap, cur, e1, by omega, rest⟩

theorem ks_low {B : Nat} {w : World} {dims : Nat} {v : Value} {rs : List KR} (h : KS B w dims v rs) : KS 0 w dims v rs := by
  have lo : ∀ p : TP, p.Own B w dims v → p.Own 0 w dims v := fun p hp => ⟨hp.1, fun b o e => ⟨Nat.zero_le _, (hp.2 b o e).2⟩⟩
  exact ⟨own_low6 h.own (Nat.zero_le _), fun x hx => ⟨lo _ (h.ok x hx).1, (h.ok x hx).2.1.imp id (lo _), (h.ok x hx).2.2.imp id (lo _)⟩⟩

/-- A store beside the rows, into a block without numbers. -/
theorem ks_other {W : World} {dims g n cap ob i : Nat} {rs : List KR} (h : KS 0 W dims (.slice (some ⟨g, 0, none⟩) n cap) rs) (hob : ob ≠ g) (nf : NoFlt W ob) (u : Value) : KS 0 (W.setCell ⟨ob, i, none⟩ u) dims (.slice (some ⟨g, 0, none⟩) n cap) rs := by
  have hm : Mod (fun k => k = ob) W (W.setCell ⟨ob, i, none⟩ u) := (Mod.refl (fun k => k = ob) _).set (p := ⟨ob, i, none⟩) (.inl rfl) _
  have kp : ∀ p : TP, p.Own 0 W dims (.slice (some ⟨g, 0, none⟩) n cap) → p.Own 0 (W.setCell ⟨ob, i, none⟩ u) dims (.slice (some ⟨g, 0, none⟩) n cap) := fun p hp => ⟨hp.1.noFlt hm fun k _ e => by subst e; exact nf, hp.2⟩
  refine ⟨⟨h.own.1, ?_⟩, fun x hx => ⟨kp _ (h.ok x hx).1, (h.ok x hx).2.1.imp id (kp _), (h.ok x hx).2.2.imp id (kp _)⟩⟩
  rcases h.own.2 with h | ⟨g', cap', cur, e1, hB, hg, rest⟩
  · exact .inl h
  · cases e1
    exact .inr ⟨g, cap, cur, rfl, hB, (Below.heap_setCell _ _ _ _ (by show g ≠ ob; exact fun e => hob e.symm)).trans hg, rest⟩

/-- A store into a row. -/
theorem ks_upd {W : World} {dims g n cap k j : Nat} {rs : List KR} {x y : KR} {u : Value} (h : KS 0 W dims (.slice (some ⟨g, 0, none⟩) n cap) rs) (hn : n = rs.length) (hx : rs[k]? = some x) (hj : j < 6) (hy : y.cells = x.cells.set j u)
    (hyo : y.p.Own 0 W dims (.slice (some ⟨g, 0, none⟩) n cap) ∧ y.mn.Own0 0 W dims (.slice (some ⟨g, 0, none⟩) n cap) ∧ y.mx.Own0 0 W dims (.slice (some ⟨g, 0, none⟩) n cap)) : KS 0 (W.setCell ⟨g, k * 6 + j, none⟩ u) dims (.slice (some ⟨g, 0, none⟩) n cap) (rs.set k y) := by
  subst hn
  have h1 := own_set_at (i := k * 6 + j) h.own u
  rw [flat6_set rs k j x y u hx hy hj] at h1
  have hk : ∀ i, i < W.heap.size → (Value.slice (some ⟨g, 0, none⟩) rs.length cap).ownBlock ≠ some i → (W.setCell ⟨g, k * 6 + j, none⟩ u).heap[i]? = W.heap[i]? := fun i _ hne => Below.heap_setCell _ _ _ _ (by show i ≠ g; exact fun e => hne (by rw [e]; rfl))
  refine ⟨by rw [List.length_set]; exact h1, fun z hz => ?_⟩
  rcases List.mem_or_eq_of_mem_set hz with hz | rfl
  · exact ⟨(h.ok z hz).1.keep hk, (h.ok z hz).2.1.keep hk, (h.ok z hz).2.2.keep hk⟩
  · exact ⟨hyo.1.keep hk, hyo.2.1.keep hk, hyo.2.2.keep hk⟩

/-- The box of the new node: its own place, or none. -/
def qb (b : Bool) (q : TP) (dims : Nat) : Value := if b = true then .slice q.A dims q.c else .slice none 0 0

/-- The state of Put: the rows, the new node at ob. -/
structure PS (w W : World) (dims N g cap ob : Nat) (q : TP) (b : Bool) (pl : Nat) (rs : List KR) : Prop where
  ks : KS 0 W dims (.slice (some ⟨g, 0, none⟩) N cap) rs
  one : Blk W ob 39 [.slice q.A dims q.c, .int .i64 pl, .int .i64 (-1), .int .i64 (-1), qb b q dims, qb b q dims]
  len : rs.length = N
  qok : q.Ok W dims
  qf : ∀ b o, q.A = some ⟨b, o, none⟩ → b ≠ g
  mod : Mod (fun _ => False) w W
  lo : w.heap.size ≤ g ∧ w.heap.size ≤ ob ∧ ob ≠ g

theorem PS.nf {w W : World} {dims N g cap ob pl : Nat} {q : TP} {b : Bool} {rs : List KR} (h : PS w W dims N g cap ob q b pl rs) : NoFlt W ob := by
  intro o x hc
  rw [h.one.cell] at hc
  have hm := List.mem_of_getElem? hc
  unfold qb at hm
  cases b <;> simp at hm

theorem PS.drewN {w W : World} {dims N g cap ob pl : Nat} {q : TP} {b : Bool} {rs : List KR} (h : PS w W dims N g cap ob q b pl rs) (n : Nat) : PS w (W.drewN n) dims N g cap ob q b pl rs :=
  ⟨h.ks.mod ((Mod.refl _ _).drewN n), h.one, h.len, h.qok, h.qf, h.mod.drewN n, h.lo⟩

theorem PS.drew {w W : World} {dims N g cap ob pl : Nat} {q : TP} {b : Bool} {rs : List KR} (h : PS w W dims N g cap ob q b pl rs) : PS w W.drew dims N g cap ob q b pl rs :=
  ⟨h.ks.mod (Mod.refl _ _).drew, h.one, h.len, h.qok, h.qf, h.mod.drew, h.lo⟩

theorem PS.mod0 {w W W' : World} {dims N g cap ob pl : Nat} {q : TP} {b : Bool} {rs : List KR} (h : PS w W dims N g cap ob q b pl rs) (hm : Mod (fun _ => False) W W') : PS w W' dims N g cap ob q b pl rs :=
  ⟨h.ks.mod hm, h.one.mod hm (fun h => h), h.len, h.qok.mod0 hm, h.qf, h.mod.trans hm, h.lo⟩

/-- The new node's plane is written. -/
theorem PS.plane {w W : World} {dims N g cap ob pl : Nat} {q : TP} {b : Bool} {rs : List KR} (h : PS w W dims N g cap ob q b pl rs) (pl' : Nat) : PS w (W.setCell ⟨ob, 1, none⟩ (.int .i64 pl')) dims N g cap ob q b pl' rs := by
  have hm : Mod (fun k => k = ob) W (W.setCell ⟨ob, 1, none⟩ (.int .i64 pl')) := (Mod.refl (fun k => k = ob) _).set (p := ⟨ob, 1, none⟩) (.inl rfl) _
  exact ⟨ks_other h.ks h.lo.2.2 h.nf _, h.one.set 1 _, h.len, h.qok.noFlt hm fun k _ e => by subst e; exact h.nf, h.qf, h.mod.set (.inr h.lo.2.1) _, h.lo⟩

/-- A row's field is written. -/
theorem PS.upd {w W : World} {dims N g cap ob pl k j : Nat} {q : TP} {b : Bool} {rs : List KR} {x y : KR} {u : Value} (h : PS w W dims N g cap ob q b pl rs) (hx : rs[k]? = some x) (hj : j < 6) (hy : y.cells = x.cells.set j u)
    (hyo : y.p.Own 0 W dims (.slice (some ⟨g, 0, none⟩) N cap) ∧ y.mn.Own0 0 W dims (.slice (some ⟨g, 0, none⟩) N cap) ∧ y.mx.Own0 0 W dims (.slice (some ⟨g, 0, none⟩) N cap)) : PS w (W.setCell ⟨g, k * 6 + j, none⟩ u) dims N g cap ob q b pl (rs.set k y) := by
  have hm : Mod (fun k => k = g) W (W.setCell ⟨g, k * 6 + j, none⟩ u) := (Mod.refl (fun k => k = g) _).set (p := ⟨g, k * 6 + j, none⟩) (.inl rfl) _
  exact ⟨ks_upd h.ks h.len.symm hx hj hy hyo, h.one.other _ (by show g ≠ ob; exact fun e => h.lo.2.2 e.symm), by rw [List.length_set]; exact h.len, h.qok.modS hm h.qf, h.qf, h.mod.set (.inr h.lo.1) _, h.lo⟩

theorem PS.cell {w W : World} {dims N g cap ob pl k : Nat} {q : TP} {b : Bool} {rs : List KR} {x : KR} (h : PS w W dims N g cap ob q b pl rs) (hx : rs[k]? = some x) (j : Nat) (hj : j < 6) : W.cell? ⟨g, k * 6 + j, none⟩ = x.cells[j]? ∧ W.frozen? ⟨g, k * 6 + j, none⟩ = false := h.ks.cell h.len.symm hx hj

theorem PS.own {w W : World} {dims N g cap ob pl k : Nat} {q : TP} {b : Bool} {rs : List KR} {x : KR} (h : PS w W dims N g cap ob q b pl rs) (hx : rs[k]? = some x) : x.p.Own 0 W dims (.slice (some ⟨g, 0, none⟩) N cap) ∧ x.mn.Own0 0 W dims (.slice (some ⟨g, 0, none⟩) N cap) ∧ x.mx.Own0 0 W dims (.slice (some ⟨g, 0, none⟩) N cap) := h.ks.ok x (List.mem_of_getElem? hx)

/-- A side of a node is written. -/
theorem PS.left {w W : World} {dims N g cap ob pl k : Nat} {q : TP} {b : Bool} {rs : List KR} {x : KR} (h : PS w W dims N g cap ob q b pl rs) (hx : rs[k]? = some x) (i : Int) : PS w (W.setCell ⟨g, k * 6 + 2, none⟩ (.int .i64 i)) dims N g cap ob q b pl (rs.set k { x with l := i }) :=
  have ho := h.own hx
  h.upd hx (by omega) rfl ⟨ho.1, ho.2.1, ho.2.2⟩
theorem PS.right {w W : World} {dims N g cap ob pl k : Nat} {q : TP} {b : Bool} {rs : List KR} {x : KR} (h : PS w W dims N g cap ob q b pl rs) (hx : rs[k]? = some x) (i : Int) : PS w (W.setCell ⟨g, k * 6 + 3, none⟩ (.int .i64 i)) dims N g cap ob q b pl (rs.set k { x with r := i }) :=
  have ho := h.own hx
  h.upd hx (by omega) rfl ⟨ho.1, ho.2.1, ho.2.2⟩

/-- A node's box is written. -/
theorem PS.boxed {w W : World} {dims N g cap ob pl k : Nat} {q mn mx : TP} {b : Bool} {rs : List KR} {x : KR} (h : PS w W dims N g cap ob q b pl rs) (hx : rs[k]? = some x) (h1 : mn.Own 0 W dims (.slice (some ⟨g, 0, none⟩) N cap)) (h2 : mx.Own 0 W dims (.slice (some ⟨g, 0, none⟩) N cap)) :
    PS w ((W.setCell ⟨g, k * 6 + 4, none⟩ (.slice mn.A dims mn.c)).setCell ⟨g, k * 6 + 5, none⟩ (.slice mx.A dims mx.c)) dims N g cap ob q b pl (rs.set k { x with mn := mn, mx := mx }) := by
  have hk := (List.getElem?_eq_some_iff.1 hx).1
  have e1 : mn.v = .slice mn.A dims mn.c := by rw [← h1.1.1]; rfl
  have e2 : mx.v = .slice mx.A dims mx.c := by rw [← h2.1.1]; rfl
  have a := h.upd (y := { x with mn := mn }) (u := .slice mn.A dims mn.c) hx (j := 4) (by omega) (by rw [← e1]; rfl) ⟨(h.own hx).1, .inr h1, (h.own hx).2.2⟩
  have hx2 : (rs.set k { x with mn := mn })[k]? = some { x with mn := mn } := List.getElem?_set_self hk
  have hm : Mod (fun k => k = g) W (W.setCell ⟨g, k * 6 + 4, none⟩ (.slice mn.A dims mn.c)) := (Mod.refl (fun k => k = g) _).set (p := ⟨g, k * 6 + 4, none⟩) (.inl rfl) _
  have kp : ∀ p : TP, p.Own 0 W dims (.slice (some ⟨g, 0, none⟩) N cap) → p.Own 0 (W.setCell ⟨g, k * 6 + 4, none⟩ (.slice mn.A dims mn.c)) dims (.slice (some ⟨g, 0, none⟩) N cap) := fun p hp => ⟨hp.1.modS hm fun b o e he => (hp.2 b o e).2 (by rw [he]; rfl), hp.2⟩
  have c := a.upd (y := { x with mn := mn, mx := mx }) (u := .slice mx.A dims mx.c) hx2 (j := 5) (by omega) (by rw [← e2]; rfl) ⟨kp _ (h.own hx).1, .inr (kp _ h1), .inr (kp _ h2)⟩
  rw [List.set_set] at c
  exact c

theorem plain_set (rs : List KR) (k : Nat) (y : KR) : (rs.set k y).map KR.plain = (rs.map KR.plain).set k y.plain := List.map_set ..

theorem plain_get {rs : List KR} {k : Nat} {xp : PR} (h : (rs.map KR.plain)[k]? = some xp) : ∃ x, rs[k]? = some x ∧ x.plain = xp := by
  rw [List.getElem?_map] at h
  cases hr : rs[k]? with
  | none => rw [hr] at h; cases h
  | some x => rw [hr] at h; exact ⟨x, rfl, by simpa using h⟩

theorem leX_int {d : Nat} {p q : List Nat} {a b : Int} (ha : Wh (p.getD d 0) a) (hb : Wh (q.getD d 0) b) : leX d p q = decide (a ≤ b) := by
  unfold leX
  exact leB_int (p := ⟨none, 0, p⟩) (q := ⟨none, 0, q⟩) (by simpa [TP.n, List.getD] using ha) (by simpa [TP.n, List.getD] using hb)
end Go.Proofs.Ytmeooadgdagiiaa.W
