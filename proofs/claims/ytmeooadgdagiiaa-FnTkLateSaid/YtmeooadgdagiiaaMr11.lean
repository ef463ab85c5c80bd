/- Steps of a proof, one behind another: The walk of Bounds over a window of the array of points. The least box of some points, by numbers. The walk of DoorPicks.Bounds. k-d trees with boxes, in memory. Inserting into a k-d tree with boxes: what is told, and the walk at an empty place. The walk of insertBounded over a k-d tree with boxes. Conditions: as each theorem says. -/
import Derived.Test.YtmeooadgdagiiaaMr10
import Derived.Deep.RegionHeld3
import Derived.Deep.DrawnRows
import Derived.Deep.DeepCutAuto
import Derived.Deep.QuietTactic
import Derived.IntWalk

namespace Lox
open Go Go.RowKit
set_option linter.unusedVariables false

/-- A box that is extended by a point, to the word. -/
def exW : Option (List Nat × List Nat) → List Nat → List Nat × List Nat
  | none, p => (List.zipWith minW p p, List.zipWith maxW p p)
  | some b, p => (List.zipWith minW b.1 p, List.zipWith maxW b.2 p)

/-- The box of some points, one after another. -/
def bndW : List (List Nat) → Option (List Nat × List Nat) := List.foldl (fun b p => some (exW b p)) none

theorem bndW_snoc (l : List (List Nat)) (p : List Nat) : bndW (l ++ [p]) = some (exW (bndW l) p) := by unfold bndW; rw [List.foldl_append]; rfl

theorem zip_wh {f : Nat → Nat → Nat} (hf : ∀ x y, (∃ n, Wh x n) → (∃ n, Wh y n) → ∃ n, Wh (f x y) n) : ∀ (xs ys : List Nat), (∀ x ∈ xs, ∃ n, Wh x n) → (∀ x ∈ ys, ∃ n, Wh x n) → ∀ z ∈ List.zipWith f xs ys, ∃ n, Wh z n := by
  intro xs
  induction xs with
  | nil => intro ys _ _ z hz; simp at hz
  | cons x xs ih =>
    intro ys hx hy z hz
    cases ys with
    | nil => simp at hz
    | cons y ys =>
      rw [List.zipWith_cons_cons] at hz
      rcases List.mem_cons.1 hz with rfl | hz
      · exact hf _ _ (hx x (by simp)) (hy y (by simp))
      · exact ih ys (fun z h => hx z (by simp [h])) (fun z h => hy z (by simp [h])) z hz

theorem min_wh {x y : Nat} (hx : ∃ n, Wh x n) (hy : ∃ n, Wh y n) : ∃ n, Wh (minW x y) n := by
  obtain ⟨a, ha⟩ := hx
  obtain ⟨b, hb⟩ := hy
  exact ⟨_, minW_wh ha hb⟩
theorem max_wh {x y : Nat} (hx : ∃ n, Wh x n) (hy : ∃ n, Wh y n) : ∃ n, Wh (maxW x y) n := by
  obtain ⟨a, ha⟩ := hx
  obtain ⟨b, hb⟩ := hy
  exact ⟨_, maxW_wh ha hb⟩

def WhBox : Option (List Nat × List Nat) → Prop
  | none => True
  | some b => (∀ x ∈ b.1, ∃ n, Wh x n) ∧ ∀ x ∈ b.2, ∃ n, Wh x n

theorem exW_wh {b : Option (List Nat × List Nat)} {p : List Nat} (hb : WhBox b) (hp : ∀ x ∈ p, ∃ n, Wh x n) : WhBox (some (exW b p)) := by
  cases b with
  | none => exact ⟨zip_wh (fun _ _ h k => min_wh h k) p p hp hp, zip_wh (fun _ _ h k => max_wh h k) p p hp hp⟩
  | some b => exact ⟨zip_wh (fun _ _ h k => min_wh h k) b.1 p hb.1 hp, zip_wh (fun _ _ h k => max_wh h k) b.2 p hb.2 hp⟩
end Lox
namespace Go.Proofs.Ytmeooadgdagiiaa
open Go.RowKit Lox
set_option linter.unusedVariables false
attribute [local go_sem] run_store_flt run_store_fn

/-- A box, or none, at a pointer. -/
def BoxAt (B : Nat) (w : World) (dims : Nat) (v : Value) : Option (List Nat × List Nat) → Prop
  | none => v = .pointer none
  | some b => ∃ g b1 b2 c1 c2 : Nat, v = .pointer (some ⟨g, 0, none⟩) ∧ BoxIn B w dims g b1 b2 c1 c2 b.1 b.2

/-- The loop's state. -/
structure BD (w w' : World) (dims : Nat) (v : Value) (b : Option (List Nat × List Nat)) : Prop where
  box : BoxAt w.heap.size w' dims v b
  wh : WhBox b
  mod : Mod (fun _ => False) w w'

/-- Extend, of a box or of none, in the midst of Bounds. -/
theorem BD.ext {w w' : World} {dims : Nat} {v : Value} {b : Option (List Nat × List Nat)} (h : BD w w' dims v b) (p : TP) (hp : p.Ok w dims) (gp : p.Gr) (hd : 0 < dims ∧ dims ≤ 1099511627776) :
    Calls Try.prog 129 #[.slice p.A dims p.c, v] w' fun e w'' => ∃ q, e = .returned (.pointer q) ∧ BD w w'' dims (.pointer q) (some (exW b p.xs)) := by
  have s0 := h.mod.size
  cases b with
  | none =>
    have hv : v = .pointer none := h.box
    subst hv
    refine (extend_new dims p w' (hp.mod0 h.mod) gp hd).mono ?_
    rintro e w'' ⟨g, b1, b2, c1, c2, rfl, hb, hm⟩
    exact ⟨_, rfl, ⟨g, b1, b2, c1, c2, rfl, ⟨hb.blk, own_low hb.own1 s0, own_low hb.own2 s0, hb.ne, by have := hb.low; omega, hb.lt⟩⟩, exW_wh h.wh (TP.gr_iff.1 gp), h.mod.trans hm⟩
  | some b =>
    obtain ⟨g, b1, b2, c1, c2, rfl, hb⟩ := h.box
    have l1 := (own_ge hb.own1).1
    have l2 := (own_ge hb.own2).1
    refine (extend_at w.heap.size dims g b1 b2 c1 c2 p b.1 b.2 w' hb (hp.mod0 h.mod) (fun k o e => ?_) gp h.wh.1 h.wh.2 hd.2).mono ?_
    · have := (hp.2.far (by have := hp.1; omega)) (by rw [hp.1]; exact hd.1) k o e
      omega
    · rintro e w'' ⟨rfl, hb2, hm⟩
      exact ⟨_, rfl, ⟨g, b1, b2, c1, c2, rfl, hb2⟩, exW_wh h.wh (TP.gr_iff.1 gp), h.mod.trans' hm fun i hi e => by have := hb.low; omega⟩

set_option maxHeartbeats 4000000 in
theorem bounds_at (dims pb n c : Nat) (A l B : List TP) (w : World) (ht : TPs w pb (A ++ (l ++ B))) (ho : ∀ p ∈ l, p.Ok w dims ∧ p.Gr) (hn : l.length = n) (hl : (A ++ (l ++ B)).length ≤ 1099511627776) (hd : 0 < dims ∧ dims ≤ 1099511627776) :
    Calls Try.prog 127 #[.slice (some ⟨pb, A.length, none⟩) n c] w fun e w' => ∃ q, e = .returned (.pointer q) ∧ BD w w' dims (.pointer q) (bndW (l.map TP.xs)) := by
  have HH := Lib.hid (And.intro ht (And.intro ho (And.intro hn hl)))
  have hnb : n ≤ 1099511627776 := by rw [List.length_append, List.length_append] at hl; omega
  clear ht ho hn hl
  go_enter Try.func127, Try.ntmps127
  go_wp2
  go_loopw [3, 8] (fun v i wr => ∃ (k : Nat) (q : Option Addr), k ≤ n ∧ i = .int .i64 k ∧ v = .pointer q ∧ Hid (BD w wr dims (.pointer q) (bndW ((l.take k).map TP.xs)))) (fun _ i _ => n - (intOf i).toNat)
  case atStart => exact ⟨0, none, Nat.zero_le _, rfl, rfl, rfl, trivial, Mod.refl _ _⟩
  case round =>
    obtain ⟨k, q, hk, rfl, rfl, HR⟩ := hrel
    by_cases hlt : k < n
    · have hk2 : k < l.length := by rw [HH.out.2.2.1]; exact hlt
      obtain ⟨p, ep⟩ : ∃ p, p = l[k] := ⟨_, rfl⟩
      have hpk : l[k]? = some p := by rw [ep]; exact List.getElem?_eq_getElem hk2
      have hTK : l.take (k + 1) = l.take k ++ [p] := by rw [List.take_succ_eq_append_getElem hk2, ep]
      obtain ⟨hpo, hpg⟩ := HH.out.2.1 p (List.mem_of_getElem? hpk)
      have c0 : wr.cell? ⟨pb, A.length + k, none⟩ = some (.slice p.A dims p.c) := by
        obtain ⟨rest, hb⟩ := TPs.mod HH.out.1 HR.out.mod (fun h => h)
        have h := hb.at (i := A.length + k) (v := p.v) (by
          have hl2 : A.length + k < (A ++ (l ++ B)).length := by simp; omega
          rw [List.getElem?_append_left (by rw [List.length_map]; exact hl2), List.getElem?_map, List.getElem?_append_right (by omega), show A.length + k - A.length = k from by omega, List.getElem?_append_left hk2, hpk]
          rfl)
        rw [h, ← hpo.1]; rfl
      have HS := Lib.hid (And.intro hpo (And.intro hpg hTK))
      have i0' : (0 : Int) ≤ k := by omega
      have i1' : (k : Int) < n := by omega
      clear hk2 ep hpk hTK hpo hpg
      go_wp2_with (go_at_call 129; refine (HR.out.ext p HS.out.1 HS.out.2.1 hd).mono ?_; rintro _ w2 ⟨q2, rfl, h2⟩; have H2 := Lib.hid h2; clear h2)
      go_roundw
      case rel =>
        refine ⟨k + 1, q2, by omega, by go_num, rfl, ?_⟩
        rw [HS.out.2.2, List.map_append, List.map_cons, List.map_nil, bndW_snoc]
        exact H2.out
      case measure => simp [intOf]; omega
    · obtain rfl : k = n := by omega
      have h := HR.out
      rw [List.take_of_length_le (by rw [HH.out.2.2.1]; exact Nat.le_refl _)] at h
      have H3 := Lib.hid h
      clear h
      go_wp2
      go_ret
      exact ⟨q, rfl, H3.out⟩
end Go.Proofs.Ytmeooadgdagiiaa

namespace Lox
open Go Go.RowKit
set_option linter.unusedVariables false

/-- mn and mx are, along each axis, the least and the greatest number of the points ps. -/
structure BoxOf (dims : Nat) (ps : List (List Nat)) (mn mx : List Nat) : Prop where
  lmn : mn.length = dims
  lmx : mx.length = dims
  wmn : ∀ x ∈ mn, ∃ n, Wh x n
  wmx : ∀ x ∈ mx, ∃ n, Wh x n
  all : ∀ d, d < dims → ∀ p ∈ ps, zi (mn.getD d 0) ≤ zi (p.getD d 0) ∧ zi (p.getD d 0) ≤ zi (mx.getD d 0)
  is1 : ∀ d, d < dims → ∃ p ∈ ps, zi (mn.getD d 0) = zi (p.getD d 0)
  is2 : ∀ d, d < dims → ∃ p ∈ ps, zi (mx.getD d 0) = zi (p.getD d 0)

theorem BoxOf.iff {dims : Nat} {ps qs : List (List Nat)} {mn mx : List Nat} (h : BoxOf dims ps mn mx) (hm : ∀ p, p ∈ qs ↔ p ∈ ps) : BoxOf dims qs mn mx :=
  ⟨h.lmn, h.lmx, h.wmn, h.wmx, fun d hd p hp => h.all d hd p ((hm p).1 hp), fun d hd => by obtain ⟨p, hp, e⟩ := h.is1 d hd; exact ⟨p, (hm p).2 hp, e⟩, fun d hd => by obtain ⟨p, hp, e⟩ := h.is2 d hd; exact ⟨p, (hm p).2 hp, e⟩⟩

/-- Two boxes of the same points have the same numbers. -/
theorem BoxOf.same {dims : Nat} {ps : List (List Nat)} {mn mx mn' mx' : List Nat} (h : BoxOf dims ps mn mx) (k : BoxOf dims ps mn' mx') : mn.map zi = mn'.map zi ∧ mx.map zi = mx'.map zi := by
  have ext : ∀ (a b : List Nat), a.length = dims → b.length = dims → (∀ d, d < dims → zi (a.getD d 0) = zi (b.getD d 0)) → a.map zi = b.map zi := by
    intro a b ha hb hd
    refine List.ext_getElem (by simp [ha, hb]) fun d h1 h2 => ?_
    rw [List.length_map] at h1 h2
    have := hd d (by omega)
    simpa [h1, h2] using this
  refine ⟨ext _ _ h.lmn k.lmn fun d hd => ?_, ext _ _ h.lmx k.lmx fun d hd => ?_⟩
  · obtain ⟨p, hp, e⟩ := h.is1 d hd
    obtain ⟨q, hq, e2⟩ := k.is1 d hd
    have := (h.all d hd q hq).1
    have := (k.all d hd p hp).1
    omega
  · obtain ⟨p, hp, e⟩ := h.is2 d hd
    obtain ⟨q, hq, e2⟩ := k.is2 d hd
    have := (h.all d hd q hq).2
    have := (k.all d hd p hp).2
    omega

theorem zip_getD {f : Nat → Nat → Nat} {xs ys : List Nat} {d : Nat} (hx : d < xs.length) (hy : d < ys.length) : (List.zipWith f xs ys).getD d 0 = f (xs.getD d 0) (ys.getD d 0) := by
  have h : d < (List.zipWith f xs ys).length := by simp; omega
  have e : (List.zipWith f xs ys)[d]? = some (f xs[d] ys[d]) := by rw [List.getElem?_eq_getElem h, List.getElem_zipWith]
  simp [List.getD, e, hx, hy]

theorem zi_min {x y : Nat} (hx : ∃ n, Wh x n) (hy : ∃ n, Wh y n) : zi (minW x y) = min (zi x) (zi y) := zi_eq (minW_wh (zi_wh hx) (zi_wh hy))
theorem zi_max {x y : Nat} (hx : ∃ n, Wh x n) (hy : ∃ n, Wh y n) : zi (maxW x y) = max (zi x) (zi y) := zi_eq (maxW_wh (zi_wh hx) (zi_wh hy))

theorem BoxOf.one {dims : Nat} {p : List Nat} (hl : p.length = dims) (hp : ∀ x ∈ p, ∃ n, Wh x n) : BoxOf dims [p] (List.zipWith minW p p) (List.zipWith maxW p p) := by
  have h1 : ∀ d, d < dims → zi ((List.zipWith minW p p).getD d 0) = zi (p.getD d 0) := fun d hd => by
    rw [zip_getD (by omega) (by omega), zi_min (hp _ (mem_getD (by omega))) (hp _ (mem_getD (by omega)))]; omega
  have h2 : ∀ d, d < dims → zi ((List.zipWith maxW p p).getD d 0) = zi (p.getD d 0) := fun d hd => by
    rw [zip_getD (by omega) (by omega), zi_max (hp _ (mem_getD (by omega))) (hp _ (mem_getD (by omega)))]; omega
  refine ⟨by simp [hl], by simp [hl], zip_wh (fun _ _ h k => min_wh h k) p p hp hp, zip_wh (fun _ _ h k => max_wh h k) p p hp hp, fun d hd q hq => ?_, fun d hd => ⟨p, by simp, h1 d hd⟩, fun d hd => ⟨p, by simp, h2 d hd⟩⟩
  rw [List.mem_singleton.1 hq, h1 d hd, h2 d hd]
  exact ⟨Int.le_refl _, Int.le_refl _⟩

theorem BoxOf.more {dims : Nat} {ps : List (List Nat)} {p mn mx : List Nat} (h : BoxOf dims ps mn mx) (hl : p.length = dims) (hp : ∀ x ∈ p, ∃ n, Wh x n) : BoxOf dims (p :: ps) (List.zipWith minW mn p) (List.zipWith maxW mx p) := by
  have l1 := h.lmn
  have l2 := h.lmx
  have h1 : ∀ d, d < dims → zi ((List.zipWith minW mn p).getD d 0) = min (zi (mn.getD d 0)) (zi (p.getD d 0)) := fun d hd => by
    rw [zip_getD (by omega) (by omega), zi_min (h.wmn _ (mem_getD (by omega))) (hp _ (mem_getD (by omega)))]
  have h2 : ∀ d, d < dims → zi ((List.zipWith maxW mx p).getD d 0) = max (zi (mx.getD d 0)) (zi (p.getD d 0)) := fun d hd => by
    rw [zip_getD (by omega) (by omega), zi_max (h.wmx _ (mem_getD (by omega))) (hp _ (mem_getD (by omega)))]
  refine ⟨by simp [hl, l1], by simp [hl, l2], zip_wh (fun _ _ h k => min_wh h k) mn p h.wmn hp, zip_wh (fun _ _ h k => max_wh h k) mx p h.wmx hp, fun d hd q hq => ?_, fun d hd => ?_, fun d hd => ?_⟩
  · rw [h1 d hd, h2 d hd]
    rcases List.mem_cons.1 hq with rfl | hq
    · omega
    · have := h.all d hd q hq; omega
  · rw [h1 d hd]
    rcases Int.le_total (zi (mn.getD d 0)) (zi (p.getD d 0)) with h3 | h3
    · obtain ⟨q, hq, e⟩ := h.is1 d hd
      exact ⟨q, by simp [hq], by omega⟩
    · exact ⟨p, by simp, by omega⟩
  · rw [h2 d hd]
    rcases Int.le_total (zi (p.getD d 0)) (zi (mx.getD d 0)) with h3 | h3
    · obtain ⟨q, hq, e⟩ := h.is2 d hd
      exact ⟨q, by simp [hq], by omega⟩
    · exact ⟨p, by simp, by omega⟩

/-- What Bounds reckons is the least box. -/
theorem bndW_of {dims : Nat} : ∀ (n : Nat) (l : List (List Nat)), l.length = n + 1 → (∀ p ∈ l, p.length = dims ∧ ∀ x ∈ p, ∃ n, Wh x n) → ∃ mn mx, bndW l = some (mn, mx) ∧ BoxOf dims l mn mx := by
  intro n
  induction n with
  | zero =>
    intro l hl hp
    obtain ⟨p, rfl⟩ := List.length_eq_one_iff.1 hl
    have := hp p (by simp)
    exact ⟨_, _, rfl, BoxOf.one this.1 this.2⟩
  | succ n ih =>
    intro l hl hp
    obtain ⟨l', p, rfl⟩ : ∃ l' p, l = l' ++ [p] := ⟨l.dropLast, l.getLast (by intro e; rw [e] at hl; cases hl), (List.dropLast_concat_getLast (by intro e; rw [e] at hl; cases hl)).symm⟩
    obtain ⟨mn, mx, e, hb⟩ := ih l' (by simpa using hl) fun q hq => hp q (by simp [hq])
    have h3 := hp p (by simp)
    refine ⟨_, _, by rw [bndW_snoc, e]; rfl, (hb.more h3.1 h3.2).iff fun q => by simp [or_comm]⟩
end Lox

namespace Go.Proofs.Ytmeooadgdagiiaa
open Go.RowKit Lox
set_option linter.unusedVariables false
attribute [local go_sem] run_store_flt run_store_fn

theorem kmeth_bounds (S : Value) (lc : Nat) (w : World) : (method 318 71 (picksV S lc) "Bounds").run Try.prog w = .ok (122, picksV S lc) w := by kernel_rfl

/-- What Bounds of a window tells: a box of the window's points. -/
def BndTold (dims : Nat) (l : List TP) (w : World) (e : Ending) (w' : World) : Prop :=
  ∃ (g b1 b2 c1 c2 : Nat) (mn mx : List Nat), e = .returned (.pointer (some ⟨g, 0, none⟩)) ∧ BoxIn w.heap.size w' dims g b1 b2 c1 c2 mn mx ∧ BoxOf dims (l.map TP.xs) mn mx ∧ Mod (fun _ => False) w w'

set_option maxHeartbeats 1000000 in
theorem kbounds_at (dims pb n c lc : Nat) (A l B : List TP) (w : World) (ht : TPs w pb (A ++ (l ++ B))) (ho : ∀ p ∈ l, p.Ok w dims ∧ p.Gr) (hn : l.length = n) (h0 : 0 < n) (hl : (A ++ (l ++ B)).length ≤ 1099511627776) (hd : 0 < dims ∧ dims ≤ 1099511627776) :
    Calls Try.prog 122 #[picksV (.slice (some ⟨pb, A.length, none⟩) n c) lc] w (BndTold dims l w) := by
  have HB : Hid (∀ W : World, Mod (fun _ => False) w W → Calls Try.prog 127 #[.slice (some ⟨pb, A.length, none⟩) n c] W (BndTold dims l W)) := by
    intro W hW
    refine (bounds_at dims pb n c A l B W (TPs.mod ht hW (fun h => h)) (fun p hp => ⟨(ho p hp).1.mod0 hW, (ho p hp).2⟩) hn hl hd).mono ?_
    rintro e w' ⟨q, rfl, hb⟩
    obtain ⟨mn, mx, e1, e2⟩ := bndW_of (dims := dims) (n - 1) (l.map TP.xs) (by rw [List.length_map]; omega) (fun x hx => by
      obtain ⟨p, hp, rfl⟩ := List.mem_map.1 hx
      exact ⟨(ho p hp).1.1, TP.gr_iff.1 (ho p hp).2⟩)
    have h := hb.box
    rw [e1] at h
    obtain ⟨g, b1, b2, c1, c2, e3, h⟩ := h
    exact ⟨g, b1, b2, c1, c2, mn, mx, by rw [e3], h, e2, hb.mod⟩
  clear ht ho hn hl
  go_enter Try.func122, Try.ntmps122
  go_wp2_with (go_at_call 127; refine (HB.out _ ((Mod.refl _ _).alloc _)).mono ?_; rintro _ w2 ⟨g, b1, b2, c1, c2, mn, mx, rfl, h1, h2, h3⟩; have H2 := Lib.hid (And.intro h1 (And.intro h2 h3)); clear h1 h2 h3)
  go_ret
  obtain ⟨h1, h2, h3⟩ := H2.out
  refine ⟨g, b1, b2, c1, c2, mn, mx, rfl, ⟨h1.blk, own_low h1.own1 ?_, own_low h1.own2 ?_, h1.ne, ?_, h1.lt⟩, h2, ((Mod.refl _ _).alloc _).trans h3⟩
  · rw [World.size_alloc]; omega
  · rw [World.size_alloc]; omega
  · have := h1.low; rw [World.size_alloc] at this; omega
end Go.Proofs.Ytmeooadgdagiiaa

namespace Go.Proofs.Ytmeooadgdagiiaa
open Go.RowKit Lox
set_option linter.unusedVariables false

def blkOf : Option Addr → Nat
  | some a => a.block
  | none => 0

/-- A box's blocks. -/
def BX.ks (b : BX) : List Nat := [b.g, blkOf b.mn.A, blkOf b.mx.A]
def boxKs : Option BX → List Nat
  | none => []
  | some b => b.ks

/-- All blocks of a tree: its nodes' and its boxes'. -/
def MT.ks : MT → List Nat
  | .nil => []
  | .node g _ _ bx l r => g :: (boxKs bx ++ (l.ks ++ r.ks))

/-- A box that stands, and is the least one of some points. -/
def BX.Ok (w : World) (dims : Nat) (ps : List (List Nat)) (b : BX) : Prop :=
  ∃ b1 b2 : Nat, b.mn.A = some ⟨b1, 0, none⟩ ∧ b.mx.A = some ⟨b2, 0, none⟩ ∧ BoxIn 0 w dims b.g b1 b2 b.mn.c b.mx.c b.mn.xs b.mx.xs ∧ BoxOf dims ps b.mn.xs b.mx.xs

/-- Each node has a box: the least one of the points on it and below it. -/
def MT.Boxed (w : World) (dims : Nat) : MT → Prop
  | .nil => True
  | .node g p d bx l r => (∃ b, bx = some b ∧ b.Ok w dims ((l.pts ++ p :: r.pts).map TP.xs)) ∧ l.Boxed w dims ∧ r.Boxed w dims

theorem BX.Ok.mod {w w' : World} {dims : Nat} {ps : List (List Nat)} {b : BX} {S : Nat → Prop} (h : b.Ok w dims ps) (hm : Mod S w w') (hS : ∀ k ∈ b.ks, ¬ S k) : b.Ok w' dims ps := by
  obtain ⟨b1, b2, e1, e2, hb, ho⟩ := h
  have hk : b.ks = [b.g, b1, b2] := by unfold BX.ks; rw [e1, e2]; rfl
  rw [hk] at hS
  exact ⟨b1, b2, e1, e2, hb.mod hm (hS _ (by simp)) (hS _ (by simp)) (hS _ (by simp)), ho⟩

theorem BX.Ok.lt {w : World} {dims : Nat} {ps : List (List Nat)} {b : BX} (h : b.Ok w dims ps) : ∀ k ∈ b.ks, k < w.heap.size := by
  obtain ⟨b1, b2, e1, e2, hb, ho⟩ := h
  have hk : b.ks = [b.g, b1, b2] := by unfold BX.ks; rw [e1, e2]; rfl
  rw [hk]
  intro k hk
  have := hb.lt
  simp at hk
  omega

theorem MT.Boxed.mod {w w' : World} {dims : Nat} {S : Nat → Prop} : ∀ {t : MT}, t.Boxed w dims → Mod S w w' → (∀ k ∈ t.ks, ¬ S k) → t.Boxed w' dims := by
  intro t
  induction t with
  | nil => intro h _ _; trivial
  | node g p d bx l r ihl ihr =>
    rintro ⟨⟨b, rfl, hb⟩, h1, h2⟩ hm hS
    exact ⟨⟨b, rfl, hb.mod hm fun k hk => hS k (by simp [MT.ks, boxKs, hk])⟩, ihl h1 hm fun k hk => hS k (by simp [MT.ks, hk]), ihr h2 hm fun k hk => hS k (by simp [MT.ks, hk])⟩

theorem MT.gs_ks : ∀ (t : MT), ∀ k ∈ t.gs, k ∈ t.ks := by
  intro t
  induction t with
  | nil => intro k hk; exact hk
  | node g p d bx l r ihl ihr =>
    intro k hk
    simp only [MT.gs, MT.ks, List.mem_cons, List.mem_append] at hk ⊢
    rcases hk with rfl | hk | hk
    · exact .inl rfl
    · exact .inr (.inr (.inl (ihl k hk)))
    · exact .inr (.inr (.inr (ihr k hk)))

theorem MT.ks_lt {w : World} {dims : Nat} : ∀ {t : MT} {v : Value}, t.In w v → t.Boxed w dims → ∀ k ∈ t.ks, k < w.heap.size := by
  intro t
  induction t with
  | nil => intro v _ _ k hk; cases hk
  | node g p d bx l r ihl ihr =>
    rintro v ⟨e, lv, rv, hb, hl, hr⟩ ⟨⟨b, rfl, hbx⟩, h1, h2⟩ k hk
    simp only [MT.ks, boxKs, List.mem_cons, List.mem_append] at hk
    rcases hk with rfl | hk | hk | hk
    · exact hb.lt
    · exact hbx.lt k hk
    · exact ihl hl h1 k hk
    · exact ihr hr h2 k hk

theorem run_assert_bnd (S : Value) (lc : Nat) (w : World) : (Instr.typeAssert (.iface 71 (picksV S lc)) 114 116 false).run Try.prog w = .ok (.iface 71 (picksV S lc)) w := by kernel_rfl

/-- What buildBounded tells: a tree with boxes, and how the list and the picks are left. -/
def BldTold (dims pb lc fuel d : Nat) (A l B : List TP) (ks : List Nat) (w : World) (e : Ending) (w' : World) : Prop :=
  ∃ (v : Value) (mt : MT), e = .returned v ∧ mt.In w' v ∧ mt.T = (KB.build leB dims fuel l ks d).1 ∧ mt.ks.Nodup ∧ (∀ g ∈ mt.ks, w.heap.size ≤ g) ∧ mt.Boxed w' dims ∧
    (∃ l', l'.Perm l ∧ TPs w' pb (A ++ (l' ++ B))) ∧ PK w' lc pb (KB.build leB dims fuel l ks d).2 ∧ Mod (fun k => k = pb ∨ k = lc) w w'

/-- The tree of both sides, and a node with a box above them. -/
theorem bld_end {dims pb lc fuel d i g0 b1 b2 c1 c2 : Nat} {A l B m l1 l2 : List TP} {ks mn mx : List Nat} {w w3 w4 w5 w6 w7 W : World} {p : TP} {lv rv : Value} {lt rt : MT} {bx : BX} (hm3 : Mod (fun k => k = pb ∨ k = lc) w w3) (hbx : bx = ⟨g0, ⟨some ⟨b1, 0, none⟩, c1, mn⟩, ⟨some ⟨b2, 0, none⟩, c2, mx⟩⟩) (hbk : BoxIn w3.heap.size w4 dims g0 b1 b2 c1 c2 mn mx) (hbo : BoxOf dims (m.map TP.xs) mn mx) (h34 : Mod (fun _ => False) w3 w4) (hpb : pb < w.heap.size) (hlc : lc < w.heap.size)
    (hl : lt.In w5 lv ∧ lt.ks.Nodup ∧ (∀ g ∈ lt.ks, w4.heap.size ≤ g) ∧ lt.Boxed w5 dims) (h45 : Mod (fun k => k = pb ∨ k = lc) w4 w5) (h56 : Mod (fun _ => False) w5 w6)
    (hr : rt.In w7 rv ∧ rt.ks.Nodup ∧ (∀ g ∈ rt.ks, w6.heap.size ≤ g) ∧ rt.Boxed w7 dims) (h67 : Mod (fun k => k = pb ∨ k = lc) w6 w7) (h7 : Mod (fun _ => False) w7 W)
    (hpt : ∀ q, q ∈ lt.pts ++ p :: rt.pts ↔ q ∈ m) (hT : (MT.node w7.heap.size p d (some bx) lt rt).T = (KB.build leB dims fuel l ks d).1) (hb : Blk W w7.heap.size 122 (nodeCells p d lv rv (some bx)))
    (hp : m.Perm l) (hi : m[i]? = some p) (hp1 : l1.Perm (m.take i)) (hp2 : l2.Perm (m.drop (i + 1))) (ht : TPs w7 pb ((A ++ l1 ++ [p]) ++ (l2 ++ B))) (hK : PK w7 lc pb (KB.build leB dims fuel l ks d).2) (hne : lc ≠ pb) :
    BldTold dims pb lc fuel d A l B ks w (.returned (.pointer (some ⟨w7.heap.size, 0, none⟩))) W := by
  have s3 := hm3.size
  have s4 := h34.size
  have s5 := h45.size
  have s6 := h56.size
  have s7 := h67.size
  have h5W : Mod (fun k => k = pb ∨ k = lc) w5 W := ((h56.mono (fun _ _ h => h.elim)).trans h67).trans (h7.mono (fun _ _ h => h.elim))
  have h4W : Mod (fun k => k = pb ∨ k = lc) w4 W := h45.trans h5W
  have ll := MT.ks_lt hl.1 hl.2.2.2
  have rl := MT.ks_lt hr.1 hr.2.2.2
  have hbl := hbk.low
  have hbt := hbk.lt
  have hb1 := (own_ge hbk.own1).1
  have hb2 := (own_ge hbk.own2).1
  have hbn := hbk.ne
  have hks : bx.ks = [g0, b1, b2] := by rw [hbx]; rfl
  have hlow : ∀ k, w3.heap.size ≤ k → ¬ (k = pb ∨ k = lc) := fun k hk => by rintro (h | h) <;> omega
  have hbxo : bx.Ok W dims ((lt.pts ++ p :: rt.pts).map TP.xs) := by
    subst hbx
    refine ⟨b1, b2, rfl, rfl, ?_, hbo.iff fun x => ?_⟩
    · have h := hbk.mod h4W (hlow _ hbl) (hlow _ hb1) (hlow _ hb2)
      exact ⟨h.blk, own_low h.own1 (Nat.zero_le _), own_low h.own2 (Nat.zero_le _), h.ne, Nat.zero_le _, h.lt⟩
    · simp only [List.mem_map]
      constructor
      · rintro ⟨q, hq, rfl⟩; exact ⟨q, (hpt q).1 hq, rfl⟩
      · rintro ⟨q, hq, rfl⟩; exact ⟨q, (hpt q).2 hq, rfl⟩
  refine ⟨_, .node w7.heap.size p d (some bx) lt rt, rfl, ⟨rfl, lv, rv, hb, hl.1.mod h5W (fun k hk => ?_), hr.1.mod h7 (fun _ _ h => h)⟩, hT, ?_, ?_, ⟨⟨bx, rfl, hbxo⟩, hl.2.2.2.mod h5W (fun k hk => ?_), hr.2.2.2.mod h7 (fun _ _ h => h)⟩, ⟨l1 ++ p :: l2, ?_, ?_⟩, hK.mod h7 (fun _ h => h.elim) hne, (hm3.trans (h34.mono (fun _ _ h => h.elim))).trans h4W⟩
  · have := hl.2.2.1 k (MT.gs_ks _ k hk)
    exact hlow k (by omega)
  · show (w7.heap.size :: (bx.ks ++ (lt.ks ++ rt.ks))).Nodup
    rw [hks]
    refine List.nodup_cons.2 ⟨fun h => ?_, List.nodup_append.2 ⟨by simp; omega, List.nodup_append.2 ⟨hl.2.1, hr.2.1, fun a ha b hb' e => ?_⟩, fun a ha b hb' e => ?_⟩⟩
    · rcases List.mem_append.1 h with h | h
      · simp at h; omega
      · rcases List.mem_append.1 h with h | h
        · have := ll _ h; omega
        · have := rl _ h; omega
    · have := ll a ha
      have := hr.2.2.1 b hb'
      omega
    · simp at ha
      rcases List.mem_append.1 hb' with h | h
      · have := hl.2.2.1 b h; omega
      · have := hr.2.2.1 b h; omega
  · intro k hk
    simp only [MT.ks, boxKs, hks, List.mem_cons, List.mem_append, List.not_mem_nil, or_false] at hk
    rcases hk with rfl | (rfl | rfl | rfl) | hk | hk
    · omega
    · omega
    · omega
    · omega
    · have := hl.2.2.1 k hk; omega
    · have := hr.2.2.1 k hk; omega
  · have := hl.2.2.1 k hk
    exact hlow k (by omega)
  · have h := hp1.append (hp2.cons p)
    rw [KB.split_at hi] at h
    exact h.trans hp
  · have e : A ++ ((l1 ++ p :: l2) ++ B) = (A ++ l1 ++ [p]) ++ (l2 ++ B) := by simp
    rw [e]
    exact TPs.mod ht h7 (fun h => h)
end Go.Proofs.Ytmeooadgdagiiaa

namespace Go.Proofs.Ytmeooadgdagiiaa
open Go.RowKit Lox
set_option linter.unusedVariables false
attribute [local go_sem] run_store_flt run_store_fn

theorem kmeth_extend (S : Value) (w : World) : (method 318 73 S "Extend").run Try.prog w = .ok (129, S) w := by kernel_rfl
theorem kahead_extend (A : Option Addr) (n c : Nat) (w : World) : (nilAhead 318 73 (.slice A n c) "Extend").run Try.prog w = .ok (some false) w := by kernel_rfl

/-- What insertBounded tells. -/
def InsB (dims d : Nat) (q : TP) (mt : MT) (w : World) (e : Ending) (w' : World) : Prop :=
  ∃ (v' : Value) (mt' : MT), e = .returned v' ∧ mt'.In w' v' ∧ mt'.T = KB.ins leB dims q d mt.T ∧ mt'.ks.Nodup ∧ (∀ g ∈ mt'.ks, g ∈ mt.ks ∨ w.heap.size ≤ g) ∧ mt'.Boxed w' dims ∧ Mod (fun k => k ∈ mt.ks) w w'

theorem insB_new {dims d g b1 b2 c1 c2 : Nat} {q : TP} {w w1 : World} (hq : q.xs.length = dims) (hg : q.Gr) (hb : BoxIn w.heap.size w1 dims g b1 b2 c1 c2 (List.zipWith minW q.xs q.xs) (List.zipWith maxW q.xs q.xs)) (hm : Mod (fun _ => False) w w1) :
    InsB dims d q .nil w (.returned (.pointer (some ⟨w1.heap.size, 0, none⟩))) (w1.alloc (.cells #[.iface 73 (.slice q.A dims q.c), .int .i64 d, .pointer none, .pointer none, .pointer (some ⟨g, 0, none⟩)] 122)) := by
  subst hq
  have hma : Mod (fun _ => False) w1 (w1.alloc (.cells #[.iface 73 (.slice q.A q.xs.length q.c), .int .i64 d, .pointer none, .pointer none, .pointer (some ⟨g, 0, none⟩)] 122)) := (Mod.refl _ _).alloc _
  have hl := hb.low
  have h1 := (own_ge hb.own1).1
  have h2 := (own_ge hb.own2).1
  have hlt := hb.lt
  have hne := hb.ne
  have hs := hm.size
  refine ⟨_, .node w1.heap.size q d (some ⟨g, ⟨some ⟨b1, 0, none⟩, c1, List.zipWith minW q.xs q.xs⟩, ⟨some ⟨b2, 0, none⟩, c2, List.zipWith maxW q.xs q.xs⟩⟩) .nil .nil, rfl, ⟨rfl, .pointer none, .pointer none, Blk.new' _ _ _, rfl, rfl⟩, rfl, ?_, fun k hk => ?_, ⟨⟨_, rfl, b1, b2, rfl, rfl, ?_, ?_⟩, trivial, trivial⟩, (hm.mono (fun _ _ h => h.elim)).trans (hma.mono (fun _ _ h => h.elim))⟩
  · show (w1.heap.size :: ([g, b1, b2] ++ ([] ++ []))).Nodup
    simp
    omega
  · have hk : k ∈ (w1.heap.size :: ([g, b1, b2] ++ ([] ++ []))) := hk
    simp at hk
    exact .inr (by omega)
  · have h := hb.mod hma (fun h => h) (fun h => h) (fun h => h)
    exact ⟨h.blk, own_low h.own1 (Nat.zero_le _), own_low h.own2 (Nat.zero_le _), h.ne, Nat.zero_le _, h.lt⟩
  · exact BoxOf.one rfl (TP.gr_iff.1 hg)

set_option maxHeartbeats 2000000 in
theorem insB_nil_at (dims : Nat) (hdm : 0 < dims ∧ dims ≤ 1099511627776) (q : TP) (hqg : q.Gr) (w : World) (d : Nat) (hq : q.Ok w dims) :
    Calls Try.prog 63 #[.pointer none, .iface 73 (.slice q.A dims q.c), .int .i64 d, .bool true] w (InsB dims d q .nil w) := by
  have m1 := kmeth_extend
  have m2 := kahead_extend
  have HQ := Lib.hid hq
  clear hq
  go_enter Try.func63, Try.ntmps63
  go_wp2_with (go_at_call 129; refine (extend_new dims q _ HQ.out hqg hdm).mono ?_; rintro _ w1 ⟨g, b1, b2, c1, c2, rfl, h1, h2⟩; have H1 := Lib.hid (And.intro h1 h2); clear h1 h2)
  go_ret
  exact insB_new HQ.out.1 hqg H1.out.1 H1.out.2

theorem insB_left {dims d g pl : Nat} {q p : TP} {b b' : BX} {l r lt : MT} {w w1 w2 w3 : World} {lv rv v' : Value} (hb : Blk w g 122 (nodeCells p pl lv rv (some b))) (hr : r.In w rv) (hrB : r.Boxed w dims) (hbl : ∀ k ∈ b.ks, k < w.heap.size)
    (hN : (g :: (b.ks ++ (l.ks ++ r.ks))).Nodup) (hNl : ∀ k ∈ r.ks, k < w.heap.size) (hle : leB pl q p = true) (hk : b'.ks = b.ks) (hbx : b'.Ok w1 dims (q.xs :: (l.pts ++ p :: r.pts).map TP.xs))
    (h01 : Mod (fun k => k = g ∨ k ∈ b.ks) w w1) (hb1 : Blk w1 g 122 (nodeCells p pl lv rv (some b'))) (h12 : Mod (fun _ => False) w1 w2)
    (hi : lt.In w3 v') (hT : lt.T = KB.ins leB dims q ((pl + 1) % dims) l.T) (hn : lt.ks.Nodup) (hg : ∀ k ∈ lt.ks, k ∈ l.ks ∨ w2.heap.size ≤ k) (hB : lt.Boxed w3 dims) (h23 : Mod (fun k => k ∈ l.ks) w2 w3) :
    InsB dims d q (.node g p pl (some b) l r) w (.returned (.pointer (some ⟨g, 0, none⟩))) (w3.setCell ⟨g, 2, none⟩ v') := by
  obtain ⟨n1, n2⟩ := List.nodup_cons.1 hN
  obtain ⟨n3, n4, n5⟩ := List.nodup_append.1 n2
  obtain ⟨n6, n7, n8⟩ := List.nodup_append.1 n4
  have gb : g ∉ b.ks := fun h => n1 (List.mem_append.2 (.inl h))
  have gl : g ∉ l.ks := fun h => n1 (List.mem_append.2 (.inr (List.mem_append.2 (.inl h))))
  have gr : g ∉ r.ks := fun h => n1 (List.mem_append.2 (.inr (List.mem_append.2 (.inr h))))
  have bl : ∀ k, k ∈ b.ks → k ∉ l.ks := fun k h1 h2 => n5 k h1 k (List.mem_append.2 (.inl h2)) rfl
  have br : ∀ k, k ∈ b.ks → k ∉ r.ks := fun k h1 h2 => n5 k h1 k (List.mem_append.2 (.inr h2)) rfl
  have lr : ∀ k, k ∈ l.ks → k ∉ r.ks := fun k h1 h2 => n8 k h1 k h2 rfl
  have hgl := hb.lt
  have s1 := h01.size
  have s2 := h12.size
  have gt : g ∉ lt.ks := fun h => by
    rcases hg g h with h | h
    · exact gl h
    · omega
  have m3 : Mod (fun k => k = g) w3 (w3.setCell ⟨g, 2, none⟩ v') := (Mod.refl (fun k => k = g) _).set (p := ⟨g, 2, none⟩) (.inl rfl) _
  have f0 : ∀ k ∈ r.ks, ¬ (k = g ∨ k ∈ b.ks) := fun k hk => by
    rintro (h | h)
    · exact gr (h ▸ hk)
    · exact br k h hk
  have f1 : ∀ k ∈ r.ks, k ∉ l.ks := fun k hk h => lr k h hk
  have f2 : ∀ k ∈ r.ks, ¬ k = g := fun k hk h => gr (h ▸ hk)
  have hpt : ∀ x, x ∈ (lt.pts ++ p :: r.pts).map TP.xs ↔ x ∈ q.xs :: (l.pts ++ p :: r.pts).map TP.xs := fun x => by
    have hp : ∀ y, y ∈ lt.pts ↔ y = q ∨ y ∈ l.pts := fun y => by
      rw [MT.pts_all lt, hT, (KB.ins_perm leB dims q l.T _).mem_iff, List.mem_cons, ← MT.pts_all]
    simp only [List.mem_map, List.mem_cons, List.mem_append, hp]
    constructor
    · rintro ⟨y, hy, rfl⟩
      rcases hy with (rfl | hy) | hy
      · exact .inl rfl
      · exact .inr ⟨y, .inl hy, rfl⟩
      · exact .inr ⟨y, .inr hy, rfl⟩
    · rintro (rfl | ⟨y, hy, rfl⟩)
      · exact ⟨q, .inl (.inl rfl), rfl⟩
      · rcases hy with hy | hy | hy
        · exact ⟨y, .inl (.inr hy), rfl⟩
        · exact ⟨y, .inr (.inl hy), rfl⟩
        · exact ⟨y, .inr (.inr hy), rfl⟩
  have hF2 : r.In (w3.setCell ⟨g, 2, none⟩ v') rv := (((hr.mod h01 (fun k hk => f0 k (MT.gs_ks _ k hk))).mod h12 (fun _ _ h => h)).mod h23 (fun k hk => f1 k (MT.gs_ks _ k hk))).mod m3 (fun k hk => f2 k (MT.gs_ks _ k hk))
  have hN2 : lt.In (w3.setCell ⟨g, 2, none⟩ v') v' := hi.mod m3 (fun k hk e => gt (e ▸ MT.gs_ks _ k hk))
  have hFB2 : r.Boxed (w3.setCell ⟨g, 2, none⟩ v') dims := (((hrB.mod h01 f0).mod h12 (fun _ _ h => h)).mod h23 f1).mod m3 f2
  have hNB2 : lt.Boxed (w3.setCell ⟨g, 2, none⟩ v') dims := hB.mod m3 (fun k hk e => gt (e ▸ hk))
  refine ⟨_, .node g p pl (some b') lt r, rfl, ⟨rfl, v', rv, ?_, hN2, hF2⟩, ?_, ?_, ?_, ⟨⟨b', rfl, ?_⟩, hNB2, hFB2⟩, ?_⟩
  · have := ((hb1.mod h12 (fun h => h)).mod h23 gl).set 2 v'
    exact this
  · show KB.T.node p pl lt.T r.T = _
    rw [hT]
    simp only [MT.T, KB.ins, hle, if_true]
  · show (g :: (b'.ks ++ (lt.ks ++ r.ks))).Nodup
    rw [hk]
    have nb : ∀ k, k ∈ b.ks → k ∉ lt.ks := fun k h1 h2 => by
      rcases hg k h2 with h | h
      · exact bl k h1 h
      · have := hbl k h1; omega
    have nf : ∀ k, k ∈ r.ks → k ∉ lt.ks := fun k h1 h2 => by
      rcases hg k h2 with h | h
      · exact f1 k h1 h
      · have := hNl k h1; omega
    refine List.nodup_cons.2 ⟨fun h => ?_, List.nodup_append.2 ⟨n3, List.nodup_append.2 ⟨hn, n7, fun a ha c hc e => nf c hc (e ▸ ha)⟩, fun a ha c hc e => ?_⟩⟩
    · rcases List.mem_append.1 h with h | h
      · exact gb h
      · rcases List.mem_append.1 h with h | h
        · exact gt h
        · exact gr h
    · subst e
      rcases List.mem_append.1 hc with h | h
      · exact nb a ha h
      · exact br a ha h
  · intro k hk'
    have hk2 : k ∈ g :: (b'.ks ++ (lt.ks ++ r.ks)) := hk'
    rw [hk] at hk2
    simp only [MT.ks, boxKs, List.mem_cons, List.mem_append] at hk2 ⊢
    rcases hk2 with h | h | h | h
    · exact .inl (.inl h)
    · exact .inl (.inr (.inl h))
    · rcases hg k h with h | h
      · exact .inl (.inr (.inr (.inl h)))
      · exact .inr (by omega)
    · exact .inl (.inr (.inr (.inr h)))
  · have h1 := ((hbx.mod h12 (fun _ _ h => h)).mod h23 (fun k hk' => bl k (hk ▸ hk'))).mod m3 (fun k hk' e => gb (e ▸ hk ▸ hk'))
    obtain ⟨x1, x2, e1, e2, h2, h3⟩ := h1
    exact ⟨x1, x2, e1, e2, h2, h3.iff hpt⟩
  · have hk1 : ∀ k, (k = g ∨ k ∈ b.ks) → k ∈ (MT.node g p pl (some b) l r).ks := fun k h => by
      simp only [MT.ks, boxKs, List.mem_cons, List.mem_append]
      rcases h with h | h
      · exact .inl h
      · exact .inr (.inl h)
    have hk2 : ∀ k, k ∈ l.ks → k ∈ (MT.node g p pl (some b) l r).ks := fun k h => by
      simp only [MT.ks, boxKs, List.mem_cons, List.mem_append]
      exact .inr (.inr (.inl h))
    exact (((h01.mono fun k _ h => hk1 k h).trans (h12.mono fun _ _ h => h.elim)).trans (h23.mono fun k _ h => hk2 k h)).trans (m3.mono fun k _ h => hk1 k (.inl h))

theorem insB_right {dims d g pl : Nat} {q p : TP} {b b' : BX} {l r lt : MT} {w w1 w2 w3 : World} {lv rv v' : Value} (hb : Blk w g 122 (nodeCells p pl lv rv (some b))) (hl : l.In w lv) (hlB : l.Boxed w dims) (hbl : ∀ k ∈ b.ks, k < w.heap.size)
    (hN : (g :: (b.ks ++ (l.ks ++ r.ks))).Nodup) (hNl : ∀ k ∈ l.ks, k < w.heap.size) (hle : leB pl q p = false) (hk : b'.ks = b.ks) (hbx : b'.Ok w1 dims (q.xs :: (l.pts ++ p :: r.pts).map TP.xs))
    (h01 : Mod (fun k => k = g ∨ k ∈ b.ks) w w1) (hb1 : Blk w1 g 122 (nodeCells p pl lv rv (some b'))) (h12 : Mod (fun _ => False) w1 w2)
    (hi : lt.In w3 v') (hT : lt.T = KB.ins leB dims q ((pl + 1) % dims) r.T) (hn : lt.ks.Nodup) (hg : ∀ k ∈ lt.ks, k ∈ r.ks ∨ w2.heap.size ≤ k) (hB : lt.Boxed w3 dims) (h23 : Mod (fun k => k ∈ r.ks) w2 w3) :
    InsB dims d q (.node g p pl (some b) l r) w (.returned (.pointer (some ⟨g, 0, none⟩))) (w3.setCell ⟨g, 3, none⟩ v') := by
  obtain ⟨n1, n2⟩ := List.nodup_cons.1 hN
  obtain ⟨n3, n4, n5⟩ := List.nodup_append.1 n2
  obtain ⟨n6, n7, n8⟩ := List.nodup_append.1 n4
  have gb : g ∉ b.ks := fun h => n1 (List.mem_append.2 (.inl h))
  have gl : g ∉ l.ks := fun h => n1 (List.mem_append.2 (.inr (List.mem_append.2 (.inl h))))
  have gr : g ∉ r.ks := fun h => n1 (List.mem_append.2 (.inr (List.mem_append.2 (.inr h))))
  have bl : ∀ k, k ∈ b.ks → k ∉ l.ks := fun k h1 h2 => n5 k h1 k (List.mem_append.2 (.inl h2)) rfl
  have br : ∀ k, k ∈ b.ks → k ∉ r.ks := fun k h1 h2 => n5 k h1 k (List.mem_append.2 (.inr h2)) rfl
  have lr : ∀ k, k ∈ l.ks → k ∉ r.ks := fun k h1 h2 => n8 k h1 k h2 rfl
  have hgl := hb.lt
  have s1 := h01.size
  have s2 := h12.size
  have gt : g ∉ lt.ks := fun h => by
    rcases hg g h with h | h
    · exact gr h
    · omega
  have m3 : Mod (fun k => k = g) w3 (w3.setCell ⟨g, 3, none⟩ v') := (Mod.refl (fun k => k = g) _).set (p := ⟨g, 3, none⟩) (.inl rfl) _
  have f0 : ∀ k ∈ l.ks, ¬ (k = g ∨ k ∈ b.ks) := fun k hk => by
    rintro (h | h)
    · exact gl (h ▸ hk)
    · exact bl k h hk
  have f1 : ∀ k ∈ l.ks, k ∉ r.ks := fun k hk h => lr k hk h
  have f2 : ∀ k ∈ l.ks, ¬ k = g := fun k hk h => gl (h ▸ hk)
  have hpt : ∀ x, x ∈ (l.pts ++ p :: lt.pts).map TP.xs ↔ x ∈ q.xs :: (l.pts ++ p :: r.pts).map TP.xs := fun x => by
    have hp : ∀ y, y ∈ lt.pts ↔ y = q ∨ y ∈ r.pts := fun y => by
      rw [MT.pts_all lt, hT, (KB.ins_perm leB dims q r.T _).mem_iff, List.mem_cons, ← MT.pts_all]
    simp only [List.mem_map, List.mem_cons, List.mem_append, hp]
    constructor
    · rintro ⟨y, hy, rfl⟩
      rcases hy with hy | hy | rfl | hy
      · exact .inr ⟨y, .inl hy, rfl⟩
      · exact .inr ⟨y, .inr (.inl hy), rfl⟩
      · exact .inl rfl
      · exact .inr ⟨y, .inr (.inr hy), rfl⟩
    · rintro (rfl | ⟨y, hy, rfl⟩)
      · exact ⟨q, .inr (.inr (.inl rfl)), rfl⟩
      · rcases hy with hy | hy | hy
        · exact ⟨y, .inl hy, rfl⟩
        · exact ⟨y, .inr (.inl hy), rfl⟩
        · exact ⟨y, .inr (.inr (.inr hy)), rfl⟩
  have hF2 : l.In (w3.setCell ⟨g, 3, none⟩ v') lv := (((hl.mod h01 (fun k hk => f0 k (MT.gs_ks _ k hk))).mod h12 (fun _ _ h => h)).mod h23 (fun k hk => f1 k (MT.gs_ks _ k hk))).mod m3 (fun k hk => f2 k (MT.gs_ks _ k hk))
  have hN2 : lt.In (w3.setCell ⟨g, 3, none⟩ v') v' := hi.mod m3 (fun k hk e => gt (e ▸ MT.gs_ks _ k hk))
  have hFB2 : l.Boxed (w3.setCell ⟨g, 3, none⟩ v') dims := (((hlB.mod h01 f0).mod h12 (fun _ _ h => h)).mod h23 f1).mod m3 f2
  have hNB2 : lt.Boxed (w3.setCell ⟨g, 3, none⟩ v') dims := hB.mod m3 (fun k hk e => gt (e ▸ hk))
  refine ⟨_, .node g p pl (some b') l lt, rfl, ⟨rfl, lv, v', ?_, hF2, hN2⟩, ?_, ?_, ?_, ⟨⟨b', rfl, ?_⟩, hFB2, hNB2⟩, ?_⟩
  · have := ((hb1.mod h12 (fun h => h)).mod h23 gr).set 3 v'
    exact this
  · show KB.T.node p pl l.T lt.T = _
    rw [hT]
    simp only [MT.T, KB.ins, hle, if_false, Bool.false_eq_true]
  · show (g :: (b'.ks ++ (l.ks ++ lt.ks))).Nodup
    rw [hk]
    have nb : ∀ k, k ∈ b.ks → k ∉ lt.ks := fun k h1 h2 => by
      rcases hg k h2 with h | h
      · exact br k h1 h
      · have := hbl k h1; omega
    have nf : ∀ k, k ∈ l.ks → k ∉ lt.ks := fun k h1 h2 => by
      rcases hg k h2 with h | h
      · exact f1 k h1 h
      · have := hNl k h1; omega
    refine List.nodup_cons.2 ⟨fun h => ?_, List.nodup_append.2 ⟨n3, List.nodup_append.2 ⟨n6, hn, fun a ha c hc e => nf a ha (e ▸ hc)⟩, fun a ha c hc e => ?_⟩⟩
    · rcases List.mem_append.1 h with h | h
      · exact gb h
      · rcases List.mem_append.1 h with h | h
        · exact gl h
        · exact gt h
    · subst e
      rcases List.mem_append.1 hc with h | h
      · exact bl a ha h
      · exact nb a ha h
  · intro k hk'
    have hk2 : k ∈ g :: (b'.ks ++ (l.ks ++ lt.ks)) := hk'
    rw [hk] at hk2
    simp only [MT.ks, boxKs, List.mem_cons, List.mem_append] at hk2 ⊢
    rcases hk2 with h | h | h | h
    · exact .inl (.inl h)
    · exact .inl (.inr (.inl h))
    · exact .inl (.inr (.inr (.inl h)))
    · rcases hg k h with h | h
      · exact .inl (.inr (.inr (.inr h)))
      · exact .inr (by omega)
  · have h1 := ((hbx.mod h12 (fun _ _ h => h)).mod h23 (fun k hk' => br k (hk ▸ hk'))).mod m3 (fun k hk' e => gb (e ▸ hk ▸ hk'))
    obtain ⟨x1, x2, e1, e2, h2, h3⟩ := h1
    exact ⟨x1, x2, e1, e2, h2, h3.iff hpt⟩
  · have hk1 : ∀ k, (k = g ∨ k ∈ b.ks) → k ∈ (MT.node g p pl (some b) l r).ks := fun k h => by
      simp only [MT.ks, boxKs, List.mem_cons, List.mem_append]
      rcases h with h | h
      · exact .inl h
      · exact .inr (.inl h)
    have hk2 : ∀ k, k ∈ r.ks → k ∈ (MT.node g p pl (some b) l r).ks := fun k h => by
      simp only [MT.ks, boxKs, List.mem_cons, List.mem_append]
      exact .inr (.inr (.inr h))
    exact (((h01.mono fun k _ h => hk1 k h).trans (h12.mono fun _ _ h => h.elim)).trans (h23.mono fun k _ h => hk2 k h)).trans (m3.mono fun k _ h => hk1 k (.inl h))
end Go.Proofs.Ytmeooadgdagiiaa

namespace Go.Proofs.Ytmeooadgdagiiaa
open Go.RowKit Lox
set_option linter.unusedVariables false
attribute [local go_sem] run_store_flt run_store_fn
attribute [local go_sem ↓] Go.wp_at_zero Go.wp_at_succ

theorem TP.Ok.modS {w w' : World} {dims : Nat} {S : Nat → Prop} {p : TP} (h : p.Ok w dims) (hm : Mod S w w') (hS : ∀ b o, p.A = some ⟨b, o, none⟩ → ¬ S b) : p.Ok w' dims := by
  refine ⟨h.1, h.2.1, fun h0 => ?_⟩
  obtain ⟨b, o, e, hc⟩ := h.2.2 h0
  exact ⟨b, o, e, fun j v hv => (hm.cell (lt_of_cell (hc j v hv)) (hS b o e)).trans (hc j v hv)⟩

/-- The box that Extend leaves. -/
theorem ext_ok {w1 W1 : World} {dims g b1 b2 : Nat} {bb : BX} {q : TP} {ps : List (List Nat)} (eA : bb.mn.A = some ⟨b1, 0, none⟩) (eX : bb.mx.A = some ⟨b2, 0, none⟩) (h : BoxIn 0 w1 dims bb.g b1 b2 bb.mn.c bb.mx.c (List.zipWith minW bb.mn.xs q.xs) (List.zipWith maxW bb.mx.xs q.xs)) (ho : BoxOf dims ps bb.mn.xs bb.mx.xs) (hq : q.xs.length = dims) (hg : q.Gr) (hm : Mod (fun k => k = g) w1 W1) (hn : g ∉ bb.ks) :
    BX.Ok W1 dims (q.xs :: ps) ⟨bb.g, ⟨bb.mn.A, bb.mn.c, List.zipWith minW bb.mn.xs q.xs⟩, ⟨bb.mx.A, bb.mx.c, List.zipWith maxW bb.mx.xs q.xs⟩⟩ := by
  have hks : bb.ks = [bb.g, b1, b2] := by unfold BX.ks; rw [eA, eX]; rfl
  rw [hks] at hn
  simp at hn
  exact ⟨b1, b2, eA, eX, h.mod hm (fun e => hn.1 e.symm) (fun e => hn.2.1 e.symm) (fun e => hn.2.2 e.symm), ho.more hq (TP.gr_iff.1 hg)⟩

/-- What is known behind the growing of a node's box. -/
structure InsMid (dims g pl : Nat) (q p : TP) (bb b' : BX) (l r : MT) (ql qr : Option Addr) (w W1 : World) : Prop where
  b0 : Blk w g 122 (nodeCells p pl (.pointer ql) (.pointer qr) (some bb))
  l0 : l.In w (.pointer ql)
  r0 : r.In w (.pointer qr)
  lB0 : l.Boxed w dims
  rB0 : r.Boxed w dims
  bl0 : ∀ k ∈ bb.ks, k < w.heap.size
  ll0 : ∀ k ∈ l.ks, k < w.heap.size
  rl0 : ∀ k ∈ r.ks, k < w.heap.size
  nd : (g :: (bb.ks ++ (l.ks ++ r.ks))).Nodup
  ln : l.ks.Nodup
  rn : r.ks.Nodup
  gl : g ∉ l.ks
  gr : g ∉ r.ks
  ek : b'.ks = bb.ks
  bok : b'.Ok W1 dims (q.xs :: (l.pts ++ p :: r.pts).map TP.xs)
  m01 : Mod (fun k => k = g ∨ k ∈ bb.ks) w W1
  b1 : Blk W1 g 122 (nodeCells p pl (.pointer ql) (.pointer qr) (some b'))
  c0 : W1.cell? ⟨g, 0, none⟩ = some (.iface 73 (.slice p.A dims p.c))
  c1 : W1.cell? ⟨g, 1, none⟩ = some (.int .i64 pl)
  lin : l.In W1 (.pointer ql)
  rin : r.In W1 (.pointer qr)
  lbx : l.Boxed W1 dims
  rbx : r.Boxed W1 dims
  qok : q.Ok W1 dims
  qf : ∀ b o, q.A = some ⟨b, o, none⟩ → b ∉ l.ks ∧ b ∉ r.ks
  pok : ∀ p' ∈ (MT.node g p pl (some bb) l r).pts, p'.Ok W1 dims ∧ p'.Gr ∧ ∀ b o, p'.A = some ⟨b, o, none⟩ → b ∉ l.ks ∧ b ∉ r.ks
  el : l.T.Each (fun _ d => d < dims)
  er : r.T.Each (fun _ d => d < dims)

theorem ins_mid {dims g pl b1 b2 : Nat} {q p : TP} {bb b' : BX} {l r : MT} {ql qr : Option Addr} {w w1 W1 : World}
    (hB : Blk w g 122 (nodeCells p pl (.pointer ql) (.pointer qr) (some bb)) ∧ l.In w (.pointer ql) ∧ r.In w (.pointer qr) ∧ (g :: (bb.ks ++ (l.ks ++ r.ks))).Nodup ∧
      (∀ p' ∈ (MT.node g p pl (some bb) l r).pts, p'.Ok w dims ∧ p'.Gr ∧ ∀ b o, p'.A = some ⟨b, o, none⟩ → b ∉ (MT.node g p pl (some bb) l r).ks) ∧ l.T.Each (fun _ d => d < dims) ∧ r.T.Each (fun _ d => d < dims) ∧
      l.Boxed w dims ∧ r.Boxed w dims ∧ BoxIn 0 w dims bb.g b1 b2 bb.mn.c bb.mx.c bb.mn.xs bb.mx.xs ∧ BoxOf dims ((l.pts ++ p :: r.pts).map TP.xs) bb.mn.xs bb.mx.xs ∧ bb.ks = [bb.g, b1, b2] ∧ bb.mn.A = some ⟨b1, 0, none⟩ ∧ bb.mx.A = some ⟨b2, 0, none⟩ ∧ g ∉ bb.ks)
    (hQ : q.Ok w dims ∧ ∀ b o, q.A = some ⟨b, o, none⟩ → b ∉ (MT.node g p pl (some bb) l r).ks) (hx : BoxIn 0 w1 dims bb.g b1 b2 bb.mn.c bb.mx.c (List.zipWith minW bb.mn.xs q.xs) (List.zipWith maxW bb.mx.xs q.xs)) (h1 : Mod (fun k => k ∈ bb.ks) w w1)
    (hs : Blk (w1.setCell ⟨g, 4, none⟩ (.pointer (some ⟨bb.g, 0, none⟩))) g 122 ((nodeCells p pl (.pointer ql) (.pointer qr) (some bb)).set 4 (.pointer (some ⟨bb.g, 0, none⟩)))) (hqg : q.Gr)
    (eb : b' = ⟨bb.g, ⟨bb.mn.A, bb.mn.c, List.zipWith minW bb.mn.xs q.xs⟩, ⟨bb.mx.A, bb.mx.c, List.zipWith maxW bb.mx.xs q.xs⟩⟩) (eW : W1 = w1.setCell ⟨g, 4, none⟩ (.pointer (some ⟨bb.g, 0, none⟩))) :
    InsMid dims g pl q p bb b' l r ql qr w W1 := by
  obtain ⟨hb, hl, hr, hN, hP, hEl, hEr, hlB, hrB, hbk, hbo, hks, eA, eX, gnb⟩ := hB
  obtain ⟨hq, hqf⟩ := hQ
  obtain ⟨n1, n2⟩ := List.nodup_cons.1 hN
  obtain ⟨n3, n4, n5⟩ := List.nodup_append.1 n2
  obtain ⟨n6, n7, n8⟩ := List.nodup_append.1 n4
  have gl : g ∉ l.ks := fun h => n1 (List.mem_append.2 (.inr (List.mem_append.2 (.inl h))))
  have gr : g ∉ r.ks := fun h => n1 (List.mem_append.2 (.inr (List.mem_append.2 (.inr h))))
  have hmg : Mod (fun k => k = g) w1 W1 := by rw [eW]; exact (Mod.refl (fun k => k = g) _).set (p := ⟨g, 4, none⟩) (.inl rfl) _
  have m01 : Mod (fun k => k = g ∨ k ∈ bb.ks) w W1 := (h1.mono fun _ _ h => .inr h).trans (hmg.mono fun _ _ h => .inl h)
  have far : ∀ b, b ∉ (MT.node g p pl (some bb) l r).ks → ¬ (b = g ∨ b ∈ bb.ks) ∧ b ∉ l.ks ∧ b ∉ r.ks := fun b h => by
    simp only [MT.ks, boxKs, List.mem_cons, List.mem_append, not_or] at h ⊢
    exact ⟨⟨h.1, h.2.1⟩, h.2.2.1, h.2.2.2⟩
  have fl : ∀ k ∈ l.ks, ¬ (k = g ∨ k ∈ bb.ks) := fun k hk => by
    rintro (h | h)
    · exact gl (h ▸ hk)
    · exact n5 k h k (List.mem_append.2 (.inl hk)) rfl
  have fr : ∀ k ∈ r.ks, ¬ (k = g ∨ k ∈ bb.ks) := fun k hk => by
    rintro (h | h)
    · exact gr (h ▸ hk)
    · exact n5 k h k (List.mem_append.2 (.inr hk)) rfl
  have hb1 : Blk W1 g 122 (nodeCells p pl (.pointer ql) (.pointer qr) (some b')) := by rw [eW, eb]; exact hs
  have hpo : ∀ p' ∈ (MT.node g p pl (some bb) l r).pts, p'.Ok W1 dims ∧ p'.Gr ∧ ∀ b o, p'.A = some ⟨b, o, none⟩ → b ∉ l.ks ∧ b ∉ r.ks := fun p' hp' =>
    ⟨(hP p' hp').1.modS m01 fun b o e => (far b ((hP p' hp').2.2 b o e)).1, (hP p' hp').2.1, fun b o e => (far b ((hP p' hp').2.2 b o e)).2⟩
  have hpl := (hP p (by simp [MT.pts])).1.1
  have hlt := hbk.lt
  refine ⟨hb, hl, hr, hlB, hrB, fun k hk => ?_, MT.ks_lt hl hlB, MT.ks_lt hr hrB, hN, n6, n7, gl, gr, by subst eb; rfl, ?_, m01, hb1, ?_, hb1.at (i := 1) rfl, hl.mod m01 fun k hk => fl k (MT.gs_ks _ k hk), hr.mod m01 fun k hk => fr k (MT.gs_ks _ k hk), hlB.mod m01 fl, hrB.mod m01 fr, hq.modS m01 fun b o e => (far b (hqf b o e)).1, fun b o e => (far b (hqf b o e)).2, hpo, hEl, hEr⟩
  · rw [hks] at hk; simp at hk; omega
  · rw [eb]; exact ext_ok eA eX hx hbo hq.1 hqg hmg gnb
  · rw [← hpl]; exact hb1.at (i := 0) rfl

set_option maxRecDepth 100000 in
set_option maxHeartbeats 8000000 in
theorem insB_at (dims : Nat) (hdm : 0 < dims ∧ dims ≤ 1099511627776) (q : TP) (hqg : q.Gr) (mt : MT) :
    ∀ (w : World) (v : Value) (d : Nat) (D : Int), D = d → mt.In w v → mt.ks.Nodup → mt.Boxed w dims → q.Ok w dims → (∀ b o, q.A = some ⟨b, o, none⟩ → b ∉ mt.ks) → (∀ p ∈ mt.pts, p.Ok w dims ∧ p.Gr ∧ ∀ b o, p.A = some ⟨b, o, none⟩ → b ∉ mt.ks) → mt.T.Each (fun _ d => d < dims) →
      Calls Try.prog 63 #[v, .iface 73 (.slice q.A dims q.c), .int .i64 D, .bool true] w (InsB dims d q mt w) := by
  have m1 := kmeth_dims
  have m2 := kmeth_compare
  have m3 := kahead_compare
  have m4 := kmeth_extend
  have m5 := kahead_extend
  induction mt with
  | nil =>
    intro w v d D hD hI hN hB hq hqf hP hE
    subst hD
    have hv : v = .pointer none := hI
    subst hv
    exact insB_nil_at dims hdm q hqg w d hq
  | node g p pl bx l r ihl ihr =>
    intro w v d D hD hI hN hB hq hqf hP hE
    subst hD
    obtain ⟨hv, lv, rv, hb, hl, hr⟩ := hI
    subst hv
    obtain ⟨⟨bb, rfl, b1, b2, eA, eX, hbk, hbo⟩, hlB, hrB⟩ := hB
    obtain ⟨ql, rfl⟩ := hl.ptr
    obtain ⟨qr, rfl⟩ := hr.ptr
    have hpp := hP p (by simp [MT.pts])
    obtain ⟨hpl, hEl, hEr⟩ := hE
    obtain ⟨a, ha⟩ := hqg pl (by rw [hq.1]; exact hpl)
    obtain ⟨b, hb2⟩ := hpp.2.1 pl (by rw [hpp.1.1]; exact hpl)
    have hle0 := leB_int (d := pl) (p := q) (q := p) ha hb2
    have c0 : w.cell? ⟨g, 0, none⟩ = some (.iface 73 (.slice p.A dims p.c)) := by rw [← hpp.1.1]; exact hb.at (i := 0) rfl
    have c1 : w.cell? ⟨g, 1, none⟩ = some (.int .i64 pl) := hb.at (i := 1) rfl
    have c4 : w.cell? ⟨g, 4, none⟩ = some (.pointer (some ⟨bb.g, 0, none⟩)) := hb.at (i := 4) rfl
    have z4 := hb.frozen 4
    have hgl := hb.lt
    have hks : bb.ks = [bb.g, b1, b2] := by unfold BX.ks; rw [eA, eX]; rfl
    have hN' : (g :: (bb.ks ++ (l.ks ++ r.ks))).Nodup := hN
    have EXT : Hid (∀ w1 : World, Mod (fun _ => False) w w1 → Calls Try.prog 129 #[.slice q.A dims q.c, .pointer (some ⟨bb.g, 0, none⟩)] w1 fun e w' => e = .returned (.pointer (some ⟨bb.g, 0, none⟩)) ∧ BoxIn 0 w' dims bb.g b1 b2 bb.mn.c bb.mx.c (List.zipWith minW bb.mn.xs q.xs) (List.zipWith maxW bb.mx.xs q.xs) ∧ Mod (fun k => k ∈ bb.ks) w1 w') := by
      intro w1 hm
      refine (extend_at 0 dims bb.g b1 b2 bb.mn.c bb.mx.c q bb.mn.xs bb.mx.xs w1 (hbk.mod hm (fun h => h) (fun h => h) (fun h => h)) (hq.mod0 hm) (fun k o e => ?_) hqg hbo.wmn hbo.wmx hdm.2).mono ?_
      · have h := hqf k o e
        simp only [MT.ks, boxKs, hks, List.mem_cons, List.mem_append] at h
        exact ⟨fun h2 => h (.inr (.inl (.inr (.inl h2)))), fun h2 => h (.inr (.inl (.inr (.inr (.inl h2)))))⟩
      · rintro e w' ⟨h1, h2, h3⟩
        refine ⟨h1, h2, h3.mono fun k _ h => ?_⟩
        rw [hks]
        rcases h with h | h | h <;> simp [h]
    have gnb : g ∉ bb.ks := fun h => (List.nodup_cons.1 hN').1 (List.mem_append.2 (.inl h))
    have HIL := Lib.hid ihl
    have HIR := Lib.hid ihr
    have HAB := Lib.hid (And.intro ha (And.intro hb2 hle0))
    have HB := Lib.hid (And.intro hb (And.intro hl (And.intro hr (And.intro hN' (And.intro hP (And.intro hEl (And.intro hEr (And.intro hlB (And.intro hrB (And.intro hbk (And.intro hbo (And.intro hks (And.intro eA (And.intro eX gnb))))))))))))))
    have HQ := Lib.hid (And.intro hq hqf)
    have HPP := Lib.hid hpp
    clear ihl ihr ha hb2 hle0 hb hl hr hN hN' hP hEl hEr hlB hrB hbk hbo hks eA eX gnb hq hqf hpp
    go_enter Try.func63, Try.ntmps63
    go_wp2_with fail
    go_region_held3 (fun w' => w'.cell? ⟨g, 4, none⟩ = some (.pointer (some ⟨bb.g, 0, none⟩)) ∧ w'.frozen? ⟨g, 4, none⟩ = false) (first | exact ⟨c4, z4⟩ | exact ⟨y4, zz4⟩ | exact ⟨y4s, z4s⟩)
      (first | (go_at_call 129; refine (EXT.out _ (by first | exact ((Mod.refl _ _).drewN _).drew | exact (Mod.refl _ _).drewN _)).mono ?_; rintro _ w1 ⟨rfl, x1, x2⟩; have x3 : Mod (fun k => k ∈ bb.ks) w w1 := (show Mod (fun k => k ∈ bb.ks) w _ from (by first | exact ((Mod.refl _ _).drewN _).drew | exact (Mod.refl _ _).drewN _)).trans x2; have bl1 := HB.out.1.mod x3 HB.out.2.2.2.2.2.2.2.2.2.2.2.2.2.2; have y4 : w1.cell? ⟨g, 4, none⟩ = some (.pointer (some ⟨bb.g, 0, none⟩)) := bl1.at (i := 4) rfl; have bls := bl1.set 4 (.pointer (some ⟨bb.g, 0, none⟩)); have y4s : (w1.setCell ⟨g, 4, none⟩ (.pointer (some ⟨bb.g, 0, none⟩))).cell? ⟨g, 4, none⟩ = some (.pointer (some ⟨bb.g, 0, none⟩)) := bls.at (i := 4) rfl; have z4s := bls.frozen 4; have zz4 := bl1.frozen 4; have H1 := Lib.hid (And.intro x1 (And.intro x3 (And.intro bl1 bls))); clear x1 x2 x3 bl1 bls))
    obtain ⟨W1, eW1⟩ : ∃ W1, W1 = w1.setCell ⟨g, 4, none⟩ (.pointer (some ⟨bb.g, 0, none⟩)) := ⟨_, rfl⟩
    rw [← eW1]
    obtain ⟨b', eb'⟩ : ∃ b' : BX, b' = ⟨bb.g, ⟨bb.mn.A, bb.mn.c, List.zipWith minW bb.mn.xs q.xs⟩, ⟨bb.mx.A, bb.mx.c, List.zipWith maxW bb.mx.xs q.xs⟩⟩ := ⟨_, rfl⟩
    have HX : Hid (InsMid dims g pl q p bb b' l r ql qr w W1) := ins_mid HB.out HQ.out H1.out.1 H1.out.2.1 H1.out.2.2.2 hqg eb' eW1
    clear H1 HB HQ y4 y4s z4s zz4 c0 c1 c4 z4 eW1 eb' EXT
    have c0 := HX.out.c0
    have c1 := HX.out.c1
    have hgl1 := HX.out.b1.lt
    have hnp : ((pl : Int) + 1) % (dims : Int) = (((pl + 1) % dims : Nat) : Int) := by simp
    have HNP := Lib.hid hnp
    have d0 : (pl : Int) < dims := by omega
    have d1 : (0 : Int) < dims := by omega
    have d2 : ((dims : Int) == 0) = false := by
      have : (dims : Int) ≠ 0 := by omega
      simpa using this
    have d3 : IntKind.i64.wrap ((pl : Int) + 1) = (pl : Int) + 1 := IntWalk.i64_in _ (by omega)
    have CMP : Hid (∀ w2 : World, Mod (fun _ => False) W1 w2 → Calls Try.prog 133 #[.slice q.A dims q.c, .iface 73 (.slice p.A dims p.c), .int .i64 pl] w2 fun e w' => (∃ r, e = .returned (.float .f64 r) ∧ (FloatKind.f64.format.order r 0 == some .lt || FloatKind.f64.format.order r 0 == some .eq) = decide (a ≤ b)) ∧ Mod (fun _ => False) W1 w') := by
      intro w2 hm
      exact (pcompare_at w2 dims pl pl q p a b rfl (HX.out.qok.mod0 hm) ((HX.out.pok p (by simp [MT.pts])).1.mod0 hm) HAB.out.1 HAB.out.2.1 hpl hdm.2).mono fun e w' ⟨⟨r, he, hr⟩, hm2⟩ => ⟨⟨r, he, le_look hr⟩, hm.trans hm2⟩
    clear hnp
    by_cases hab : a ≤ b
    · have hdec : decide (a ≤ b) = true := decide_eq_true hab
      rw [hdec] at CMP HAB
      clear hdec hab
      go_wp2_with fail
      go_quiet ((go_at_call 134; exact Calls.quiet_of_same ((pdims_at _ q.A dims q.c).mono (fun e w' h => ⟨h.1, h.2.symm⟩))))
      go_wp2_with fail
      go_region_held3 (fun w' => w'.cell? ⟨g, 0, none⟩ = some (.iface 73 (.slice p.A dims p.c)) ∧ w'.cell? ⟨g, 1, none⟩ = some (.int .i64 pl)) (first | exact ⟨c0, c1⟩ | exact ⟨(hm2.cell hgl1 (fun h => h)).trans c0, (hm2.cell hgl1 (fun h => h)).trans c1⟩)
        (first | (go_at_call 133; refine (CMP.out _ (by first | exact ((Mod.refl _ _).drewN _).drew | exact (Mod.refl _ _).drewN _)).mono ?_; rintro _ w2 ⟨⟨fr, rfl, hfr⟩, hm2⟩))
      have k2 : w2.cell? ⟨g, 2, none⟩ = some (.pointer ql) := (HX.out.b1.mod hm2 (fun h => h)).at (i := 2) rfl
      go_wp2_with (go_at_call 63; refine (HIL.out _ (.pointer ql) ((pl + 1) % dims) _ HNP.out (HX.out.lin.mod hm2 (fun _ _ h => h)) HX.out.ln (HX.out.lbx.mod hm2 (fun _ _ h => h)) (HX.out.qok.mod0 hm2) (fun b o e => (HX.out.qf b o e).1) (fun p' hp' => ⟨(HX.out.pok p' (by simp [MT.pts, hp'])).1.mod0 hm2, (HX.out.pok p' (by simp [MT.pts, hp'])).2.1, fun b o e => ((HX.out.pok p' (by simp [MT.pts, hp'])).2.2 b o e).1⟩) HX.out.el).mono ?_; rintro _ w3 ⟨v', nt, rfl, i1, i2, i3, i4, i5, i6⟩; obtain ⟨qv, rfl⟩ := i1.ptr; have y2 : w3.cell? ⟨g, 2, none⟩ = some (.pointer ql) := ((HX.out.b1.mod hm2 (fun h => h)).mod i6 HX.out.gl).at (i := 2) rfl; have z2 : w3.frozen? ⟨g, 2, none⟩ = false := ((HX.out.b1.mod hm2 (fun h => h)).mod i6 HX.out.gl).frozen 2; have HT := Lib.hid (And.intro i1 (And.intro i2 (And.intro i3 (And.intro i4 (And.intro i5 i6))))); clear i1 i2 i3 i4 i5 i6)
      go_ret
      exact insB_left HX.out.b0 HX.out.r0 HX.out.rB0 HX.out.bl0 HX.out.nd HX.out.rl0 HAB.out.2.2 HX.out.ek HX.out.bok HX.out.m01 HX.out.b1 hm2 HT.out.1 HT.out.2.1 HT.out.2.2.1 HT.out.2.2.2.1 HT.out.2.2.2.2.1 HT.out.2.2.2.2.2
    · have hdec : decide (a ≤ b) = false := decide_eq_false hab
      rw [hdec] at CMP HAB
      clear hdec hab
      go_wp2_with fail
      go_quiet ((go_at_call 134; exact Calls.quiet_of_same ((pdims_at _ q.A dims q.c).mono (fun e w' h => ⟨h.1, h.2.symm⟩))))
      go_wp2_with fail
      go_region_held3 (fun w' => w'.cell? ⟨g, 0, none⟩ = some (.iface 73 (.slice p.A dims p.c)) ∧ w'.cell? ⟨g, 1, none⟩ = some (.int .i64 pl)) (first | exact ⟨c0, c1⟩ | exact ⟨(hm2.cell hgl1 (fun h => h)).trans c0, (hm2.cell hgl1 (fun h => h)).trans c1⟩)
        (first | (go_at_call 133; refine (CMP.out _ (by first | exact ((Mod.refl _ _).drewN _).drew | exact (Mod.refl _ _).drewN _)).mono ?_; rintro _ w2 ⟨⟨fr, rfl, hfr⟩, hm2⟩))
      have k2 : w2.cell? ⟨g, 3, none⟩ = some (.pointer qr) := (HX.out.b1.mod hm2 (fun h => h)).at (i := 3) rfl
      go_wp2_with (go_at_call 63; refine (HIR.out _ (.pointer qr) ((pl + 1) % dims) _ HNP.out (HX.out.rin.mod hm2 (fun _ _ h => h)) HX.out.rn (HX.out.rbx.mod hm2 (fun _ _ h => h)) (HX.out.qok.mod0 hm2) (fun b o e => (HX.out.qf b o e).2) (fun p' hp' => ⟨(HX.out.pok p' (by simp [MT.pts, hp'])).1.mod0 hm2, (HX.out.pok p' (by simp [MT.pts, hp'])).2.1, fun b o e => ((HX.out.pok p' (by simp [MT.pts, hp'])).2.2 b o e).2⟩) HX.out.er).mono ?_; rintro _ w3 ⟨v', nt, rfl, i1, i2, i3, i4, i5, i6⟩; obtain ⟨qv, rfl⟩ := i1.ptr; have y2 : w3.cell? ⟨g, 3, none⟩ = some (.pointer qr) := ((HX.out.b1.mod hm2 (fun h => h)).mod i6 HX.out.gr).at (i := 3) rfl; have z2 : w3.frozen? ⟨g, 3, none⟩ = false := ((HX.out.b1.mod hm2 (fun h => h)).mod i6 HX.out.gr).frozen 3; have HT := Lib.hid (And.intro i1 (And.intro i2 (And.intro i3 (And.intro i4 (And.intro i5 i6))))); clear i1 i2 i3 i4 i5 i6)
      go_ret
      exact insB_right HX.out.b0 HX.out.l0 HX.out.lB0 HX.out.bl0 HX.out.nd HX.out.ll0 HAB.out.2.2 HX.out.ek HX.out.bok HX.out.m01 HX.out.b1 hm2 HT.out.1 HT.out.2.1 HT.out.2.2.1 HT.out.2.2.2.1 HT.out.2.2.2.2.1 HT.out.2.2.2.2.2
end Go.Proofs.Ytmeooadgdagiiaa
