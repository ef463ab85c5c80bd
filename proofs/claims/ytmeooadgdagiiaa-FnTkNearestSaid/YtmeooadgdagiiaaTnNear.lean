/- The walks of ktree and Nearest. Conditions: as each says. -/
import Derived.Test.YtmeooadgdagiiaaTnKnode
import Derived.Test.YtmeooadgdagiiaaTnSearch
namespace Lox.KB
variable {α β : Type}
theorem T.map_ord {f : α → β} {le : Nat → α → α → Bool} {le' : Nat → β → β → Bool} (h : ∀ d a b, le d a b = le' d (f a) (f b)) : ∀ t : T α, (t.map f).Ord le' ↔ t.Ord le := by
  intro t
  induction t with
  | nil => exact Iff.rfl
  | node p d l r ihl ihr =>
    simp only [T.map, T.Ord, T.map_all, List.mem_map, ihl, ihr]
    constructor
    · rintro ⟨h1, h2, h3, h4⟩
      exact ⟨fun x hx => by rw [h]; exact h1 _ ⟨x, hx, rfl⟩, fun x hx => by rw [h]; exact h2 _ ⟨x, hx, rfl⟩, h3, h4⟩
    · rintro ⟨h1, h2, h3, h4⟩
      refine ⟨?_, ?_, h3, h4⟩
      · rintro _ ⟨x, hx, rfl⟩; rw [← h]; exact h1 x hx
      · rintro _ ⟨x, hx, rfl⟩; rw [← h]; exact h2 x hx

theorem T.map_each {f : α → β} {P : Nat → Prop} : ∀ t : T α, (t.map f).Each (fun _ d => P d) ↔ t.Each (fun _ d => P d) := by
  intro t
  induction t with
  | nil => exact Iff.rfl
  | node p d l r ihl ihr => simp only [T.map, T.Each, ihl, ihr]
end Lox.KB
namespace Go.Proofs.Ytmeooadgdagiiaa
open Go.RowKit Lox
set_option linter.unusedVariables false
attribute [local go_sem] run_store_flt run_store_fn
attribute [local go_sem ↓] Go.wp_at_zero Go.wp_at_succ

/-- The order of points, of their numbers alone. -/
def leX (d : Nat) (a b : List Nat) : Bool := leB d ⟨none, 0, a⟩ ⟨none, 0, b⟩

theorem same_ord {mt mt' : MT} (h : mt'.T.map TP.xs = mt.T.map TP.xs) (ho : mt.T.Ord leB) : mt'.T.Ord leB := by
  have hx : ∀ d (a b : TP), leB d a b = leX d a.xs b.xs := fun d a b => rfl
  rw [← KB.T.map_ord hx, h, KB.T.map_ord hx]
  exact ho

theorem same_each {mt mt' : MT} {dims : Nat} (h : mt'.T.map TP.xs = mt.T.map TP.xs) (ho : mt.T.Each (fun _ d => d < dims)) : mt'.T.Each (fun _ d => d < dims) := by
  rw [← KB.T.map_each (f := TP.xs) (P := fun d => d < dims), h, KB.T.map_each]
  exact ho

theorem same_pts {mt mt' : MT} (h : mt'.T.map TP.xs = mt.T.map TP.xs) : mt'.pts.map TP.xs = mt.pts.map TP.xs := by
  rw [MT.pts_all, MT.pts_all, ← KB.T.map_all, h, KB.T.map_all]

/-- What Nearest finds. -/
theorem near_plain (dims : Nat) (q : TP) (mt : MT) (hql : q.xs.length = dims) (hqg : q.Gr) (hP : ∀ p ∈ mt.pts, p.xs.length = dims ∧ p.Gr) (ho : mt.T.Ord leB) (he : mt.T.Each (fun _ d => d < dims)) (hn : mt ≠ .nil) :
    ∃ p ∈ mt.pts, SS dims q mt none = (some p, some (sqx q.xs p.xs dims)) ∧ ∀ y ∈ mt.pts, sqx q.xs p.xs dims ≤ sqx q.xs y.xs dims := by
  obtain ⟨y, hy⟩ : ∃ y, y ∈ mt.T.all := by
    cases mt with
    | nil => exact absurd rfl hn
    | node g p d bx l r => exact ⟨p, by simp [MT.T, KB.T.all]⟩
  rw [MT.pts_all] at hP ⊢
  obtain ⟨x, hx, e1, e2, e3⟩ := KB.srch_least leB dims (fun x d => zi (x.n d)) (fun d => zi (q.n d)) (fun x => sqx q.xs x.xs dims) (fun x => x.xs.length = dims ∧ x.Gr) (fun d x p hx hp hd => by
      rw [leB_int (zi_wh (hx.2 d (by rw [hx.1]; exact hd))) (zi_wh (hp.2 d (by rw [hp.1]; exact hd)))]
      exact decide_eq_true_iff) (fun x d hx hd => sqx_ge q.xs x.xs d dims hd) mt.T hP ho he hy
  exact ⟨x, hx, Prod.ext e1 e2, e3⟩

/-- What ktree tells. -/
def TrMade (dims n : Nat) (mt : MT) (w : World) (e : Ending) (w' : World) : Prop :=
  ∃ (tb : Nat) (v : Option Addr) (mt' : MT), e = .returned (.pointer (some ⟨tb, 0, none⟩)) ∧ Blk w' tb 79 [.pointer v, .int .i64 n] ∧ mt'.In w' (.pointer v) ∧ mt'.T.map TP.xs = mt.T.map TP.xs ∧ (∀ p ∈ mt'.pts, p.Ok w' dims) ∧ Mod (fun _ => False) w w'

set_option maxHeartbeats 1000000 in
theorem ktree2_at (A : Option Addr) (c n dims B : Nat) (rs : List KR) (hdm : 0 < dims ∧ dims ≤ 4) (hn : n = rs.length) (hbx : ∀ x ∈ rs, x.mn.xs = [] ∨ (x.mn.xs.length = dims ∧ x.mx.xs.length = dims)) (mt : MT) (h0 : mt ≠ .nil) (w : World) (hK : KS B w dims (.slice A n c) rs) (hS : Seg rs mt 0) :
    Calls Try.prog 42 #[.slice A n c, .int .i64 0] w (TrMade dims n mt w) := by
  have hat : (0 : Int) = mt.at 0 := by
    cases mt with
    | nil => exact absurd rfl h0
    | node g p d bx l r => rfl
  have HK : Hid (Calls Try.prog 66 #[.slice A n c, .int .i64 0] w (KnMade dims mt w)) := knode2_at A c n dims B rs hdm hn hbx mt 0 0 w hat hK hS
  clear hK hS hn hbx hat h0
  go_enter Try.func42, Try.ntmps42
  go_wp2_with (go_at_call 66; refine HK.out.mono ?_; rintro _ w1 ⟨v, mt', rfl, h1, h2, h3, h4, h5⟩; obtain ⟨q, rfl⟩ := h1.ptr; have HT := Lib.hid (And.intro h1 (And.intro h2 (And.intro h3 (And.intro h4 h5)))); clear h1 h2 h3 h4 h5)
  go_ret
  obtain ⟨h1, h2, h3, h4, h5⟩ := HT.out
  exact ⟨_, q, mt', rfl, Blk.new' _ _ _, h1.mod ((Mod.refl _ _).alloc _) (fun _ _ h => h), h2, fun p hp => (h4 p hp).mod0 ((Mod.refl _ _).alloc _), h5.alloc _⟩

/-- What Nearest tells. -/
def NrTold (dims : Nat) (q : TP) (mt : MT) (w : World) (e : Ending) (w' : World) : Prop :=
  ∃ (p : TP) (r : Nat), e = .returned (.tuple #[.iface 73 (.slice p.A dims p.c), .float .f64 r]) ∧ p ∈ mt.pts ∧ Gd 0 r (sqx q.xs p.xs dims) ∧ (∀ y ∈ mt.pts, sqx q.xs p.xs dims ≤ sqx q.xs y.xs dims) ∧ Mod (fun _ => False) w w'

set_option maxHeartbeats 4000000 in
theorem nearest_at (dims tb : Nat) (n : Int) (v : Option Addr) (hdm : 0 < dims ∧ dims ≤ 4) (q : TP) (hqg : q.Gr) (mt : MT) (w : World) (ht : Blk w tb 79 [.pointer v, .int .i64 n]) (hI : mt.In w (.pointer v)) (hq : q.Ok w dims) (hP : ∀ p ∈ mt.pts, p.Ok w dims ∧ p.Gr) (ho : mt.T.Ord leB) (he : mt.T.Each (fun _ d => d < dims)) (hn : mt ≠ .nil) :
    Calls Try.prog 50 #[.pointer (some ⟨tb, 0, none⟩), .iface 73 (.slice q.A dims q.c)] w (NrTold dims q mt w) := by
  obtain ⟨p, hp, hSS, hmin⟩ := near_plain dims q mt hq.1 hqg (fun p hp => ⟨(hP p hp).1.1, (hP p hp).2⟩) ho he hn
  obtain ⟨g, rfl⟩ : ∃ g, v = some ⟨g, 0, none⟩ := by
    cases mt with
    | nil => exact absurd rfl hn
    | node g p d bx l r => exact ⟨g, by have := hI.1; injection this⟩
  have c0 := ht.at (i := 0) rfl
  have SR : Hid (∀ w1 : World, Mod (fun _ => False) w w1 → Calls Try.prog 70 #[.pointer (some ⟨g, 0, none⟩), .iface 73 (.slice q.A dims q.c), .float .f64 INFB] w1 fun e w' => ∃ (g' r : Nat), e = .returned (.tuple #[.pointer (some ⟨g', 0, none⟩), .float .f64 r]) ∧ w'.cell? ⟨g', 0, none⟩ = some (.iface 73 (.slice p.A dims p.c)) ∧ Gd 0 r (sqx q.xs p.xs dims) ∧ Mod (fun _ => False) w1 w') := by
    intro w1 hm
    refine (search_at dims hdm q hqg mt w1 _ INFB none (hI.mod hm (fun _ _ h => h)) (hq.mod0 hm) (fun p hp => ⟨(hP p hp).1.mod0 hm, (hP p hp).2⟩) he rfl).mono ?_
    rintro e w2 ⟨ptr, r, rfl, h1, h2, h3⟩
    rw [hSS] at h1 h2
    rcases h2 with ⟨h2, -⟩ | ⟨p', g', h2, h4, rfl, h5⟩
    · cases h2
    · injection h2 with h2
      subst h2
      refine ⟨g', r, rfl, ?_, h1.1, h3⟩
      rw [h5, ← (hP p hp).1.1]; rfl
  have HP := Lib.hid (And.intro hp hmin)
  have hlt := ht.lt
  clear ht hI hq hP ho he hn hp hSS hmin
  go_enter Try.func50, Try.ntmps50
  go_wp2_with fail
  go_region_held3 (fun w' => w'.cell? ⟨tb, 0, none⟩ = some (.pointer (some ⟨g, 0, none⟩))) (first | exact c0 | exact (hm2.cell hlt (fun h => h)).trans c0)
    (first | (go_at_call 69; refine (inf_at _).mono ?_; rintro _ w1 ⟨rfl, rfl⟩) | (go_at_call 70; refine (SR.out _ (by first | exact ((Mod.refl _ _).drewN _).drew | exact (Mod.refl _ _).drewN _)).mono ?_; rintro _ w2 ⟨g', r, rfl, k0, hr, hm2⟩))
  have HM := Lib.hid (And.intro hr hm2)
  clear hr hm2
  go_wp2_with fail
  go_ret2
  exact ⟨p, r, rfl, HP.out.1, HM.out.1, HP.out.2, (by first | exact (((Mod.refl _ _).drewN _).drew).trans HM.out.2 | exact ((Mod.refl _ _).drewN _).trans HM.out.2 | exact HM.out.2)⟩
end Go.Proofs.Ytmeooadgdagiiaa
