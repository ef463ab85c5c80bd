/- Steps of a proof, one behind another: The walks of ktree and Nearest. The walks of kbox, DoBounded and KWalkIn. What the walk through a box tells is what lies within it: the plain law. The walks of SamePoint and Among over points of whole numbers. The walks of the reference's Within and SameRow. Conditions: as each theorem says. -/
import Derived.Test.YtmeooadgdagiiaaMr18

namespace Lox.KB
variable {α β : Type}
theorem T.map_ord {f : α → β} {le : Nat → α → α → Bool} {le' : Nat → β → β → Bool} (h : ∀ d a b, le d a b = le' d (f a) (f b)) : ∀ t : T α, (t.map f).Ord le' ↔ t.Ord le := by
  intro t
  induction t with
  | nil => exact Iff.rfl
  | node p d l r ihl ihr =>
    simp only [T.map, T.Ord, T.map_all, List.mem_map, ihl, ihr]
    constructor
    · rintro ⟨h1, h2, h3, h4⟩
      exact ⟨fun x hx => by rw [h]; exact h1 _ ⟨x, hx, rfl⟩, fun x hx => by rw [h]; exact h2 _ ⟨x, hx, rfl⟩, h3, h4⟩
    · rintro ⟨h1, h2, h3, h4⟩
      refine ⟨?_, ?_, h3, h4⟩
      · rintro _ ⟨x, hx, rfl⟩; rw [← h]; exact h1 x hx
      · rintro _ ⟨x, hx, rfl⟩; rw [← h]; exact h2 x hx

theorem T.map_each {f : α → β} {P : Nat → Prop} : ∀ t : T α, (t.map f).Each (fun _ d => P d) ↔ t.Each (fun _ d => P d) := by
  intro t
  induction t with
  | nil => exact Iff.rfl
  | node p d l r ihl ihr => simp only [T.map, T.Each, ihl, ihr]
end Lox.KB
namespace Go.Proofs.Ytmeooadgdagiiaa
open Go.RowKit Lox
set_option linter.unusedVariables false
attribute [local go_sem] run_store_flt run_store_fn
attribute [local go_sem ↓] Go.wp_at_zero Go.wp_at_succ

/-- The order of points, of their numbers alone. -/
def leX (d : Nat) (a b : List Nat) : Bool := leB d ⟨none, 0, a⟩ ⟨none, 0, b⟩

theorem same_ord {mt mt' : MT} (h : mt'.T.map TP.xs = mt.T.map TP.xs) (ho : mt.T.Ord leB) : mt'.T.Ord leB := by
  have hx : ∀ d (a b : TP), leB d a b = leX d a.xs b.xs := fun d a b => rfl
  rw [← KB.T.map_ord hx, h, KB.T.map_ord hx]
  exact ho

theorem same_each {mt mt' : MT} {dims : Nat} (h : mt'.T.map TP.xs = mt.T.map TP.xs) (ho : mt.T.Each (fun _ d => d < dims)) : mt'.T.Each (fun _ d => d < dims) := by
  rw [← KB.T.map_each (f := TP.xs) (P := fun d => d < dims), h, KB.T.map_each]
  exact ho

theorem same_pts {mt mt' : MT} (h : mt'.T.map TP.xs = mt.T.map TP.xs) : mt'.pts.map TP.xs = mt.pts.map TP.xs := by
  rw [MT.pts_all, MT.pts_all, ← KB.T.map_all, h, KB.T.map_all]

/-- What Nearest finds. -/
theorem near_plain (dims : Nat) (q : TP) (mt : MT) (hql : q.xs.length = dims) (hqg : q.Gr) (hP : ∀ p ∈ mt.pts, p.xs.length = dims ∧ p.Gr) (ho : mt.T.Ord leB) (he : mt.T.Each (fun _ d => d < dims)) (hn : mt ≠ .nil) :
    ∃ p ∈ mt.pts, SS dims q mt none = (some p, some (sqx q.xs p.xs dims)) ∧ ∀ y ∈ mt.pts, sqx q.xs p.xs dims ≤ sqx q.xs y.xs dims := by
  obtain ⟨y, hy⟩ : ∃ y, y ∈ mt.T.all := by
    cases mt with
    | nil => exact absurd rfl hn
    | node g p d bx l r => exact ⟨p, by simp [MT.T, KB.T.all]⟩
  rw [MT.pts_all] at hP ⊢
  obtain ⟨x, hx, e1, e2, e3⟩ := KB.srch_least leB dims (fun x d => zi (x.n d)) (fun d => zi (q.n d)) (fun x => sqx q.xs x.xs dims) (fun x => x.xs.length = dims ∧ x.Gr) (fun d x p hx hp hd => by
      rw [leB_int (zi_wh (hx.2 d (by rw [hx.1]; exact hd))) (zi_wh (hp.2 d (by rw [hp.1]; exact hd)))]
      exact decide_eq_true_iff) (fun x d hx hd => sqx_ge q.xs x.xs d dims hd) mt.T hP ho he hy
  exact ⟨x, hx, Prod.ext e1 e2, e3⟩

/-- What ktree tells. -/
def TrMade (dims n : Nat) (mt : MT) (w : World) (e : Ending) (w' : World) : Prop :=
  ∃ (tb : Nat) (v : Option Addr) (mt' : MT), e = .returned (.pointer (some ⟨tb, 0, none⟩)) ∧ Blk w' tb 79 [.pointer v, .int .i64 n] ∧ mt'.In w' (.pointer v) ∧ mt'.T.map TP.xs = mt.T.map TP.xs ∧ (∀ p ∈ mt'.pts, p.Ok w' dims) ∧ Mod (fun _ => False) w w'

set_option maxHeartbeats 1000000 in
theorem ktree2_at (A : Option Addr) (c n dims B : Nat) (rs : List KR) (hdm : 0 < dims ∧ dims ≤ 4) (hn : n = rs.length) (hbx : ∀ x ∈ rs, x.mn.xs = [] ∨ (x.mn.xs.length = dims ∧ x.mx.xs.length = dims)) (mt : MT) (h0 : mt ≠ .nil) (w : World) (hK : KS B w dims (.slice A n c) rs) (hS : Seg rs mt 0) :
    Calls Try.prog 42 #[.slice A n c, .int .i64 0] w (TrMade dims n mt w) := by
  have hat : (0 : Int) = mt.at 0 := by
    cases mt with
    | nil => exact absurd rfl h0
    | node g p d bx l r => rfl
  have HK : Hid (Calls Try.prog 66 #[.slice A n c, .int .i64 0] w (KnMade dims mt w)) := knode2_at A c n dims B rs hdm hn hbx mt 0 0 w hat hK hS
  clear hK hS hn hbx hat h0
  go_enter Try.func42, Try.ntmps42
  go_wp2_with (go_at_call 66; refine HK.out.mono ?_; rintro _ w1 ⟨v, mt', rfl, h1, h2, h3, h4, h5⟩; obtain ⟨q, rfl⟩ := h1.ptr; have HT := Lib.hid (And.intro h1 (And.intro h2 (And.intro h3 (And.intro h4 h5)))); clear h1 h2 h3 h4 h5)
  go_ret
  obtain ⟨h1, h2, h3, h4, h5⟩ := HT.out
  exact ⟨_, q, mt', rfl, Blk.new' _ _ _, h1.mod ((Mod.refl _ _).alloc _) (fun _ _ h => h), h2, fun p hp => (h4 p hp).mod0 ((Mod.refl _ _).alloc _), h5.alloc _⟩

/-- What Nearest tells. -/
def NrTold (dims : Nat) (q : TP) (mt : MT) (w : World) (e : Ending) (w' : World) : Prop :=
  ∃ (p : TP) (r : Nat), e = .returned (.tuple #[.iface 73 (.slice p.A dims p.c), .float .f64 r]) ∧ p ∈ mt.pts ∧ Gd 0 r (sqx q.xs p.xs dims) ∧ (∀ y ∈ mt.pts, sqx q.xs p.xs dims ≤ sqx q.xs y.xs dims) ∧ Mod (fun _ => False) w w'

set_option maxHeartbeats 4000000 in
theorem nearest_at (dims tb : Nat) (n : Int) (v : Option Addr) (hdm : 0 < dims ∧ dims ≤ 4) (q : TP) (hqg : q.Gr) (mt : MT) (w : World) (ht : Blk w tb 79 [.pointer v, .int .i64 n]) (hI : mt.In w (.pointer v)) (hq : q.Ok w dims) (hP : ∀ p ∈ mt.pts, p.Ok w dims ∧ p.Gr) (ho : mt.T.Ord leB) (he : mt.T.Each (fun _ d => d < dims)) (hn : mt ≠ .nil) :
    Calls Try.prog 50 #[.pointer (some ⟨tb, 0, none⟩), .iface 73 (.slice q.A dims q.c)] w (NrTold dims q mt w) := by
  obtain ⟨p, hp, hSS, hmin⟩ := near_plain dims q mt hq.1 hqg (fun p hp => ⟨(hP p hp).1.1, (hP p hp).2⟩) ho he hn
  obtain ⟨g, rfl⟩ : ∃ g, v = some ⟨g, 0, none⟩ := by
    cases mt with
    | nil => exact absurd rfl hn
    | node g p d bx l r => exact ⟨g, by have := hI.1; injection this⟩
  have c0 := ht.at (i := 0) rfl
  have SR : Hid (∀ w1 : World, Mod (fun _ => False) w w1 → Calls Try.prog 70 #[.pointer (some ⟨g, 0, none⟩), .iface 73 (.slice q.A dims q.c), .float .f64 INFB] w1 fun e w' => ∃ (g' r : Nat), e = .returned (.tuple #[.pointer (some ⟨g', 0, none⟩), .float .f64 r]) ∧ w'.cell? ⟨g', 0, none⟩ = some (.iface 73 (.slice p.A dims p.c)) ∧ Gd 0 r (sqx q.xs p.xs dims) ∧ Mod (fun _ => False) w1 w') := by
    intro w1 hm
    refine (search_at dims hdm q hqg mt w1 _ INFB none (hI.mod hm (fun _ _ h => h)) (hq.mod0 hm) (fun p hp => ⟨(hP p hp).1.mod0 hm, (hP p hp).2⟩) he rfl).mono ?_
    rintro e w2 ⟨ptr, r, rfl, h1, h2, h3⟩
    rw [hSS] at h1 h2
    rcases h2 with ⟨h2, -⟩ | ⟨p', g', h2, h4, rfl, h5⟩
    · cases h2
    · injection h2 with h2
      subst h2
      refine ⟨g', r, rfl, ?_, h1.1, h3⟩
      rw [h5, ← (hP p hp).1.1]; rfl
  have HP := Lib.hid (And.intro hp hmin)
  have hlt := ht.lt
  clear ht hI hq hP ho he hn hp hSS hmin
  go_enter Try.func50, Try.ntmps50
  go_wp2_with fail
  go_region_held3 (fun w' => w'.cell? ⟨tb, 0, none⟩ = some (.pointer (some ⟨g, 0, none⟩))) (first | exact c0 | exact (hm2.cell hlt (fun h => h)).trans c0)
    (first | (go_at_call 69; refine (inf_at _).mono ?_; rintro _ w1 ⟨rfl, rfl⟩) | (go_at_call 70; refine (SR.out _ (by first | exact ((Mod.refl _ _).drewN _).drew | exact (Mod.refl _ _).drewN _)).mono ?_; rintro _ w2 ⟨g', r, rfl, k0, hr, hm2⟩))
  have HM := Lib.hid (And.intro hr hm2)
  clear hr hm2
  go_wp2_with fail
  go_ret2
  exact ⟨p, r, rfl, HP.out.1, HM.out.1, HP.out.2, (by first | exact (((Mod.refl _ _).drewN _).drew).trans HM.out.2 | exact ((Mod.refl _ _).drewN _).trans HM.out.2 | exact HM.out.2)⟩
end Go.Proofs.Ytmeooadgdagiiaa

namespace Go.Proofs.Ytmeooadgdagiiaa
open Go.RowKit Lox
noncomputable def withinT (lo hi : List Nat) : KB.T (List Nat) → List (List Nat)
  | .nil => []
  | .node p d l r => (if zi (lo.getD d 0) < zi (p.getD d 0) then withinT lo hi l else []) ++ ((if inBox lo hi p then [p] else []) ++ (if zi (p.getD d 0) < zi (hi.getD d 0) then withinT lo hi r else []))

theorem MT.within_T (lo hi : List Nat) : ∀ t : MT, t.within lo hi = withinT lo hi (t.T.map TP.xs) := by
  intro t
  induction t with
  | nil => rfl
  | node g p d bx l r ihl ihr => simp only [MT.within, MT.T, KB.T.map, withinT, ihl, ihr]
end Go.Proofs.Ytmeooadgdagiiaa
namespace Go.Proofs.Ytmeooadgdagiiaa.W
open Go.RowKit Lox
set_option linter.unusedVariables false
attribute [local go_sem] run_store_flt run_store_fn
attribute [local go_sem ↓] Go.wp_at_zero Go.wp_at_succ

set_option maxHeartbeats 2000000 in
theorem kbox_at (A B : Option Addr) (n c c' : Nat) (xs ys : List Nat) (w : World) (ha : Sl w A n 1 (flts xs)) (hb : Sl w B n 1 (flts ys)) (gx : ∀ x ∈ xs, ∃ n, Wh x n) (gy : ∀ x ∈ ys, ∃ n, Wh x n) (h : 0 < n ∧ n ≤ 4) :
    Calls Try.prog 47 #[.slice A n c, .slice B n c'] w fun e w' => (∃ g lo hi, e = .returned (.pointer (some ⟨g, 0, none⟩)) ∧ BoxAt w' n g lo hi ∧ lo.xs = xs ∧ hi.xs = ys) ∧ Mod (fun _ => False) w w' := by
  have H : Hid (Sl w A n 1 (flts xs) ∧ Sl w B n 1 (flts ys)) := ⟨ha, hb⟩
  have hl1 : xs.length = n := by have := ha.1; simpa [flts] using this
  have hl2 : ys.length = n := by have := hb.1; simpa [flts] using this
  have HX := Lib.hid (And.intro gx (And.intro gy (And.intro hl1 hl2)))
  clear ha hb gx gy hl1 hl2
  have hn0 : ((n : Int) == 0) = false := by
    have : (n : Int) ≠ 0 := by omega
    simpa using this
  have tok1 : True := trivial
  go_enter Try.func47, Try.ntmps47
  go_wp2_with (first
    | (have _t := tok1; clear _t tok1; go_at_call 33; refine (floats_any A n c xs _ H.out.1 (by omega) h.1).mono ?_; rintro _ w2 ⟨A2, c2, rfl, hs2, hm2, hb2⟩)
    | (go_at_call 33; refine (floats_any B n c' ys _ (H.out.2.mod hm2) (by omega) h.1).mono ?_; rintro _ w3 ⟨A3, c3, rfl, hs3, hm3, hb3⟩))
  go_ret
  have hma : Mod (fun _ => False) w3 (w3.alloc (Obj.cells #[.iface 73 (.slice A2 n c2), .iface 73 (.slice A3 n c3)] 129)) := (Mod.refl _ _).alloc _
  refine ⟨⟨w3.heap.size, ⟨A2, c2, xs⟩, ⟨A3, c3, ys⟩, rfl, ⟨Blk.new' w3 _ _, ⟨⟨HX.out.2.2.1, ?_⟩, TP.gr_of HX.out.1⟩, ⟨⟨HX.out.2.2.2, ?_⟩, TP.gr_of HX.out.2.1⟩⟩, rfl, rfl⟩, (hm2.trans hm3).trans hma⟩
  · show Sl _ A2 xs.length 1 _; rw [HX.out.2.2.1]; exact (hs2.mod hm3).mod hma
  · show Sl _ A3 ys.length 1 _; rw [HX.out.2.2.2]; exact hs3.mod hma

set_option maxHeartbeats 1000000 in
theorem tree_dob (H dims gb tb : Nat) (n : Int) (wB : World) (lo hi : TP) (hD : DB H wB dims gb lo hi) (hdm : 0 < dims ∧ dims ≤ 1099511627776) (t : MT) (v : Option Addr) (htb : Blk wB tb 79 [.pointer v, .int .i64 n]) (hn : t ≠ .nil) (hI : t.In wB (.pointer v)) (hP : ∀ p ∈ t.pts, p.Ok wB dims ∧ p.Gr) (hE : t.T.Each (fun _ d => d < dims)) (hw : RW H wB wB []) (hlen : t.count ≤ 2147483647) :
    Calls Try.prog 46 #[.pointer (some ⟨tb, 0, none⟩), .pointer (some ⟨gb, 0, none⟩), .func (Fn.func 48) #[] #[.pointer (some ⟨H + 1, 0, none⟩), .pointer (some ⟨H, 0, none⟩)]] wB (DbTold H wB (t.within lo.xs hi.xs)) := by
  obtain ⟨g, rfl⟩ : ∃ g, v = some ⟨g, 0, none⟩ := by
    cases t with
    | nil => exact absurd rfl hn
    | node g p d bx l r => exact ⟨g, by have := hI.1; injection this⟩
  have c0 := htb.at (i := 0) rfl
  have HD : Hid (Calls Try.prog 68 #[.pointer (some ⟨g, 0, none⟩), .func (Fn.func 48) #[] #[.pointer (some ⟨H + 1, 0, none⟩), .pointer (some ⟨H, 0, none⟩)], .pointer (some ⟨gb, 0, none⟩), .int .i64 0] wB (DbTold H wB (t.within lo.xs hi.xs))) := dob_at H dims gb wB lo hi hD hdm t 0 _ wB [] hn hI hP hE hw (by simpa using hlen)
  clear hD htb hn hI hP hE hw hlen
  go_enter Try.func46, Try.ntmps46
  go_wp2_with (go_at_call 68; refine HD.out.mono ?_; rintro _ w4 ⟨rfl, hD4⟩)
  go_ret
  exact ⟨rfl, hD4⟩

theorem catch_idleIn (p q r : Addr) (w : World) :
    CallsD Try.prog 45 #[.pointer (some p), .pointer (some q), .pointer (some r)] .returning w fun e u' w' => e = .returned (.tuple #[]) ∧ u' = .returning ∧ w' = w := by
  refine callsD_of_wpS Try.func45 rfl fun c₀ cs hu => ?_
  apply wpS_seq
  apply wpS_region
  simp [wpOpsS, go_sem, recoverD, hu, Try.ntmps45, Exit.thenS]
  refine wpS_cond (t := false) (by simp [Act.eval, Array.replicate]) ?_
  simp only [Bool.false_eq_true, if_false]
  refine wpS_of_wp (wp_skip ?_)
  cases c₀
  simp_all [bodyPostS, results, Try.results45]

/-- What KWalkIn tells, never stopped. -/
def ViTold (L : List (List Nat)) (w : World) (e : Ending) (w' : World) : Prop :=
  ∃ A1 c1 gs, e = .returned (.tuple #[.slice A1 L.length c1, .bool false, .bool true]) ∧ Mod (fun _ => False) w w' ∧ Sl w' A1 L.length 1 gs ∧ PtsAt w' gs L

theorem init4 (w : World) (H : Nat) (hH : w.heap.size = H) : ∃ W, W = ((((w.alloc (.cells #[.int .i64 0] 3)).alloc (.cells #[.slice none 0 0] 22)).alloc (.cells #[.bool false] 4)).alloc (.cells #[.bool false] 4)) ∧ W.heap.size = H + 4 ∧ Mod (fun _ => False) w W ∧
    Blk W H 3 [.int .i64 0] ∧ Blk W (H + 1) 22 [.slice none 0 0] ∧ Blk W (H + 2) 4 [.bool false] ∧ Blk W (H + 3) 4 [.bool false] := by
  have hs : ∀ (w : World) (o : Obj) (k : Nat), w.heap.size = k → (w.alloc o).heap.size = k + 1 := fun w o k h => by rw [World.size_alloc, h]
  have s1 := hs w (.cells #[.int .i64 0] 3) H hH
  have s2 := hs _ (.cells #[.slice none 0 0] 22) _ s1
  have s3 := hs _ (.cells #[.bool false] 4) _ s2
  have s4 := hs _ (.cells #[.bool false] 4) _ s3
  refine ⟨_, rfl, s4, ((((Mod.refl _ _).alloc _).alloc _).alloc _).alloc _, ?_, ?_, ?_, ?_⟩
  · exact (((blk_new_at hH _ _ rfl).alloc _).alloc _).alloc _
  · exact ((blk_new_at s1 _ _ rfl).alloc _).alloc _
  · exact (blk_new_at s2 _ _ rfl).alloc _
  · exact blk_new_at s3 _ _ rfl

theorem rw_nil {H : Nat} {w : World} (h1 : Blk w (H + 1) 22 [.slice none 0 0]) (hl : H + 4 ≤ w.heap.size) : RW H w w [] :=
  ⟨Mod.refl _ _, hl, .slice none 0 0, [], h1, World.ownsRow_nil _ _ _ _, ⟨rfl, fun i v xs h => by simp at h⟩⟩

theorem vi_end {w7 : World} {H : Nat} {u1 : Value} {f3 f4 : Bool} (b1 : Blk w7 (H + 1) 22 [u1]) (b3 : Blk w7 (H + 2) 4 [.bool f3]) (b4 : Blk w7 (H + 3) 4 [.bool f4]) :
    ∃ W, W = ((((w7.setCell ⟨H + 2, 0, none⟩ (.bool false)).setCell ⟨H + 1, 0, none⟩ u1).setCell ⟨H + 2, 0, none⟩ (.bool false)).setCell ⟨H + 3, 0, none⟩ (.bool true)).drew ∧ (∀ {w : World}, Mod (fun _ => False) w w7 → w.heap.size = H → Mod (fun _ => False) w W) ∧
      (∀ k, H + 4 ≤ k → W.heap[k]? = w7.heap[k]?) ∧ W.cell? ⟨H + 1, 0, none⟩ = some u1 ∧ W.cell? ⟨H + 2, 0, none⟩ = some (.bool false) ∧ W.cell? ⟨H + 3, 0, none⟩ = some (.bool true) := by
  refine ⟨_, rfl, fun hm hH => ?_, fun k hk => ?_, ?_, ?_, ?_⟩
  · have h1 := hm.set (p := ⟨H + 2, 0, none⟩) (.inr (by rw [hH]; exact Nat.le_add_right _ _)) (.bool false)
    have h2 := h1.set (p := ⟨H + 1, 0, none⟩) (.inr (by rw [hH]; exact Nat.le_add_right _ _)) u1
    have h4 := h2.set (p := ⟨H + 2, 0, none⟩) (.inr (by rw [hH]; exact Nat.le_add_right _ _)) (.bool false)
    have h5 := h4.set (p := ⟨H + 3, 0, none⟩) (.inr (by rw [hH]; exact Nat.le_add_right _ _)) (.bool true)
    exact h5.drew
  · rw [show ∀ w : World, w.drew.heap = w.heap from fun _ => rfl, Below.heap_setCell _ _ _ _ (by show k ≠ H + 3; omega), Below.heap_setCell _ _ _ _ (by show k ≠ H + 2; omega), Below.heap_setCell _ _ _ _ (by show k ≠ H + 1; omega), Below.heap_setCell _ _ _ _ (by show k ≠ H + 2; omega)]
  · have g0 := b1.other (a := ⟨H + 2, 0, none⟩) (.bool false) (by show H + 2 ≠ H + 1; omega)
    have g1 := g0.set 0 (u1)
    have g3 := g1.other (a := ⟨H + 2, 0, none⟩) (.bool false) (by show H + 2 ≠ H + 1; omega)
    have g4 := g3.other (a := ⟨H + 3, 0, none⟩) (.bool true) (by show H + 3 ≠ H + 1; omega)
    exact (g4.drew).at (i := 0) rfl
  · have g0 := b3.set 0 (.bool false)
    have g1 := g0.other (a := ⟨H + 1, 0, none⟩) (u1) (by show H + 1 ≠ H + 2; omega)
    have g3 := g1.set 0 (.bool false)
    have g4 := g3.other (a := ⟨H + 3, 0, none⟩) (.bool true) (by show H + 3 ≠ H + 2; omega)
    exact (g4.drew).at (i := 0) rfl
  · have g0 := b4.other (a := ⟨H + 2, 0, none⟩) (.bool false) (by show H + 2 ≠ H + 3; omega)
    have g1 := g0.other (a := ⟨H + 1, 0, none⟩) (u1) (by show H + 1 ≠ H + 3; omega)
    have g3 := g1.other (a := ⟨H + 2, 0, none⟩) (.bool false) (by show H + 2 ≠ H + 3; omega)
    have g4 := g3.set 0 (.bool true)
    exact (g4.drew).at (i := 0) rfl

theorem count_same {mt t : MT} (h : t.T.map TP.xs = mt.T.map TP.xs) : t.count = mt.count := by
  rw [← MT.count_pts, ← MT.count_pts]
  have := congrArg List.length (same_pts h)
  rwa [List.length_map, List.length_map] at this

theorem ki_mid {H dims gb tb n : Nat} {v : Option Addr} {lo hi : TP} {low high : List Nat} {mt t : MT} {w W5 w6 w8 : World} (h5 : W5.heap.size = H + 4 ∧ Mod (fun _ => False) w W5 ∧ Blk W5 H 3 [.int .i64 0] ∧ Blk W5 (H + 1) 22 [.slice none 0 0] ∧ Blk W5 (H + 2) 4 [.bool false] ∧ Blk W5 (H + 3) 4 [.bool false])
    (h6 : Blk w6 tb 79 [.pointer v, .int .i64 n] ∧ t.In w6 (.pointer v) ∧ t.T.map TP.xs = mt.T.map TP.xs ∧ (∀ p ∈ t.pts, p.Ok w6 dims) ∧ Mod (fun _ => False) W5 w6) (hbx : BoxAt w8 dims gb lo hi) (elo : lo.xs = low) (ehi : hi.xs = high) (hm8 : Mod (fun _ => False) w6 w8)
    (hP : ∀ p ∈ mt.pts, p.xs.length = dims ∧ p.Gr) (hE : mt.T.Each (fun _ d => d < dims)) (hne : mt ≠ .nil) (hmc : mt.count = n) :
    DB H w8 dims gb lo hi ∧ RW H w8 w8 [] ∧ (∀ p ∈ t.pts, p.Ok w8 dims ∧ p.Gr) ∧ t.T.Each (fun _ d => d < dims) ∧ t ≠ .nil ∧ t.count = n ∧ t.within lo.xs hi.xs = mt.within low high := by
  obtain ⟨z5, m5, q0, q1, q2, q3⟩ := h5
  obtain ⟨a1, a2, a3, a4, a5⟩ := h6
  have hm := a5.trans hm8
  have hz := hm.size
  have hr : Blk w8 (H + 1) 22 [.slice none 0 0] := q1.mod hm (fun h => h)
  refine ⟨⟨q0.mod hm (fun h => h), hr, hbx⟩, rw_nil hr (by omega), fun p hp => ⟨(a4 p hp).mod0 hm8, ?_⟩, same_each a3 hE, fun h => ?_, by rw [count_same a3, hmc], by rw [MT.within_T, MT.within_T, a3, elo, ehi]⟩
  · have : p.xs ∈ mt.pts.map TP.xs := by rw [← same_pts a3]; exact List.mem_map_of_mem hp
    obtain ⟨q, hq, e⟩ := List.mem_map.1 this
    exact gr_xs (hP q hq).2 e.symm
  · have := count_same a3
    rw [h] at this
    cases mt with
    | nil => exact hne rfl
    | node => simp [MT.count] at this; omega

set_option maxHeartbeats 4000000 in
theorem kwalkIn_at (T : Option Addr) (c n dims B : Nat) (rs : List KR) (hdm : 0 < dims ∧ dims ≤ 4) (mt : MT) (w : World) (A1 A2 : Option Addr) (k1 k2 : Nat) (low high : List Nat) (hn : n = rs.length) (hn2 : n ≤ 2147483647) (hbx : ∀ x ∈ rs, x.mn.xs = [] ∨ (x.mn.xs.length = dims ∧ x.mx.xs.length = dims)) (hne : mt ≠ .nil) (hmc : mt.count = n) (hK : KS B w dims (.slice T n c) rs) (hS : Seg rs mt 0)
    (hP : ∀ p ∈ mt.pts, p.xs.length = dims ∧ p.Gr) (hE : mt.T.Each (fun _ d => d < dims)) (h1 : Sl w A1 dims 1 (flts low)) (h2 : Sl w A2 dims 1 (flts high)) (g1 : ∀ x ∈ low, ∃ n, Wh x n) (g2 : ∀ x ∈ high, ∃ n, Wh x n) :
    Calls Try.prog 19 #[.slice T n c, .slice A1 dims k1, .slice A2 dims k2, .int .i64 0] w (ViTold (mt.within low high) w) := by
  have hmf : ∀ (fn : Fn) (first cap : Array Value) (w : World), (Instr.makeFunc fn first cap).run Try.prog w = .ok (.func fn first cap) w := fun _ _ _ _ => rfl
  obtain ⟨H, hH⟩ : ∃ H, w.heap.size = H := ⟨_, rfl⟩
  obtain ⟨W5, eW5, z5, m5, q0, q1, q2, q3⟩ := init4 w H hH
  have H5 : Hid (W5.heap.size = H + 4 ∧ Mod (fun _ => False) w W5 ∧ Blk W5 H 3 [.int .i64 0] ∧ Blk W5 (H + 1) 22 [.slice none 0 0] ∧ Blk W5 (H + 2) 4 [.bool false] ∧ Blk W5 (H + 3) 4 [.bool false]) := ⟨z5, m5, q0, q1, q2, q3⟩
  have HTR : Hid (Calls Try.prog 42 #[.slice T n c, .int .i64 0] W5 (TrMade dims n mt W5)) := ktree2_at T c n dims B rs hdm hn hbx mt hne W5 (hK.mod m5) hS
  have HN := Lib.hid (And.intro hP (And.intro hE (And.intro h1 (And.intro h2 (And.intro g1 (And.intro g2 hmc))))))
  have HNE := Lib.hid hne
  have HEW := Lib.hid eW5
  clear hn hbx hne hmc hK hS hP hE h1 h2 g1 g2 z5 m5 q0 q1 q2 q3 eW5
  go_enter_defers Try.func19, Try.ntmps19
  go_wp2_with (first
    | (go_at_call 42; rw [← HEW.out]; refine HTR.out.mono ?_; rintro _ w6 ⟨tb, v, t, rfl, htb, ht, hsame, hpts, hm⟩; have H6 := Lib.hid (And.intro htb (And.intro ht (And.intro hsame (And.intro hpts hm)))); clear htb ht hsame hpts hm)
    | (go_at_call 47; refine (kbox_at A1 A2 dims k1 k2 low high w6 (HN.out.2.2.1.mod (H5.out.2.1.trans H6.out.2.2.2.2)) (HN.out.2.2.2.1.mod (H5.out.2.1.trans H6.out.2.2.2.2)) HN.out.2.2.2.2.1 HN.out.2.2.2.2.2.1 hdm).mono ?_; rintro _ w8 ⟨⟨gb, lo, hi, rfl, hbx, elo, ehi⟩, hm8⟩; have H8 := Lib.hid (And.intro hbx (And.intro elo (And.intro ehi hm8))); have HDB : Hid (DB H w8 dims gb lo hi ∧ RW H w8 w8 [] ∧ (∀ p ∈ t.pts, p.Ok w8 dims ∧ p.Gr) ∧ t.T.Each (fun _ d => d < dims) ∧ t ≠ .nil ∧ t.count = n ∧ t.within lo.xs hi.xs = mt.within low high) := ki_mid H5.out H6.out hbx elo ehi hm8 HN.out.1 HN.out.2.1 HNE.out HN.out.2.2.2.2.2.2; clear hbx elo ehi hm8)
    | (go_at_call 46; refine (tree_dob H dims gb tb n w8 lo hi HDB.out.1 (by omega) t v (H6.out.1.mod H8.out.2.2.2 (fun h => h)) HDB.out.2.2.2.2.1 (H6.out.2.1.mod H8.out.2.2.2 (fun _ _ h => h)) HDB.out.2.2.1 HDB.out.2.2.2.1 HDB.out.2.1 (by have := HDB.out.2.2.2.2.2.1; omega)).mono ?_; rintro _ w7 ⟨rfl, hD⟩; have HRW := Lib.hid hD; have b3 : Blk w7 (H + 1 + 1) 4 [.bool false] := (((H5.out.2.2.2.2.1.mod H6.out.2.2.2.2 (fun h => h)).mod H8.out.2.2.2 (fun h => h)).mod hD.mod (by show ¬ (H + 2 = H + 1); omega)); have b4 : Blk w7 (H + 1 + 1 + 1) 4 [.bool false] := (((H5.out.2.2.2.2.2.mod H6.out.2.2.2.2 (fun h => h)).mod H8.out.2.2.2 (fun h => h)).mod hD.mod (by show ¬ (H + 3 = H + 1); omega)); have y3 := b3.at (i := 0) rfl; have z3 := b3.frozen 0; have y4 := b4.at (i := 0) rfl; have z4 := b4.frozen 0; clear hD))
  obtain ⟨u1, gs, b1, o1, hp⟩ := HRW.out.rows
  obtain ⟨A1', c1, rfl, hs1⟩ := own_sl o1
  obtain ⟨k, hk⟩ : ∃ k, k = (t.within lo.xs hi.xs).length := ⟨_, rfl⟩
  rw [← hk] at b1 o1 hs1
  have y1 := b1.at (i := 0) rfl
  have z1 := b1.frozen 0
  obtain ⟨W, eW, hWm, hWk, r1, r3, r4⟩ := vi_end b1 b3 b4
  have eW' : W = ((((w7.setCell ⟨H + 1 + 1, 0, none⟩ (.bool false)).setCell ⟨H + 1, 0, none⟩ (.slice A1' k c1)).setCell ⟨H + 1 + 1, 0, none⟩ (.bool false)).setCell ⟨H + 1 + 1 + 1, 0, none⟩ (.bool true)).drew := eW
  have hm58 : Mod (fun _ => False) W5 w8 := H6.out.2.2.2.2.trans H8.out.2.2.2
  have hmw : Mod (fun _ => False) w w7 := (H5.out.2.1.trans hm58).trans' HRW.out.mod (fun i hi h => by rw [hH] at hi; omega)
  have hB6 : H + 4 ≤ w8.heap.size := by have := hm58.size; have := H5.out.1; omega
  have hfin : ViTold (mt.within low high) w (.returned (.tuple #[.slice A1' k c1, .bool false, .bool true])) W := by
    have e := HDB.out.2.2.2.2.2.2
    rw [e] at hk hp
    have keep : ∀ b, w8.heap.size ≤ b → W.heap[b]? = w7.heap[b]? := fun b hb => hWk b (by omega)
    refine ⟨A1', c1, gs, by rw [← hk], hWm hmw hH, ?_, ⟨hp.1, fun i v xs h1 h2 => ?_⟩⟩
    · rw [← hk]; exact sl_keep2 hs1 fun b o e hb => keep b (by rcases o1.2 with ⟨h, _⟩ | ⟨g, cap, cur, h, hg, _⟩ <;> (rw [e] at h; cases h); exact hg)
    · obtain ⟨A, m, c', ev, hml, hs, hA⟩ := hp.2 i v xs h1 h2
      exact ⟨A, m, c', ev, hml, sl_keep2 hs fun b o e hb => keep b (hA b o e).1.1⟩
  have HFIN := Lib.hid hfin
  have HR : Hid (W.cell? ⟨H + 1, 0, none⟩ = some (.slice A1' k c1) ∧ W.cell? ⟨H + 1 + 1, 0, none⟩ = some (.bool false) ∧ W.cell? ⟨H + 1 + 1 + 1, 0, none⟩ = some (.bool true)) := ⟨r1, r3, r4⟩
  have HEE := Lib.hid eW'
  clear hfin eW eW' r1 r3 r4 hk hWm hWk hmw hp hs1 o1 HEW hm58
  refine wp_region_noPanic ?_
  go_region
  refine NoPanic.normal ?_
  rw [← HEE.out]
  go_wp2_with fail
  refine leaves_cons (f := 45) (args := #[.pointer (some ⟨H + 1, 0, none⟩), .pointer (some ⟨H + 1 + 1, 0, none⟩), .pointer (some ⟨H + 1 + 1 + 1, 0, none⟩)]) (by simp) (by simp [go_sem]) ?_
  refine (catch_idleIn ⟨H + 1, 0, none⟩ ⟨H + 1 + 1, 0, none⟩ ⟨H + 1 + 1 + 1, 0, none⟩ _).mono ?_
  rintro e u' w'' ⟨rfl, rfl, rfl⟩
  obtain ⟨r1, r3, r4⟩ := HR.out
  clear HEE
  simp [Leaves, settle, results, Try.results19, go_sem, r1, r3, r4]
  exact HFIN.out
end Go.Proofs.Ytmeooadgdagiiaa.W

namespace Go.Proofs.Ytmeooadgdagiiaa.W
open Go.RowKit Lox
set_option linter.unusedVariables false

/-- The box does not begin, along a node's plane, just where the node and a point on its left are. -/
def NEl (lo : List Nat) : MT → Prop
  | .nil => True
  | .node _ p d _ l r => (∀ x ∈ l.pts, ¬ (zi (lo.getD d 0) = zi (p.xs.getD d 0) ∧ zi (x.xs.getD d 0) = zi (p.xs.getD d 0))) ∧ NEl lo l ∧ NEl lo r

theorem nel_of {rs : List KR} {n : Nat} {low high : List Nat} (hn : rs.length = n) (h : NotEdged (rs.map knOf) n low high n) : ∀ (t : MT) (i : Nat), Seg rs t i → NEl low t := by
  intro t
  induction t with
  | nil => intro i _; trivial
  | node g p d bx l r ihl ihr =>
    intro i hS
    obtain ⟨y, hy, ey⟩ := seg_node hS
    have hi := (List.getElem?_eq_some_iff.1 hy).1
    have a1 : y.p.xs = p.xs := congrArg PR.xs ey
    have a2 : y.pl = d := congrArg PR.pl ey
    have a3 : y.l = l.at (i + 1) := congrArg PR.l ey
    have a4 : y.r = r.at (i + 1 + l.count) := congrArg PR.r ey
    have hl := MT.sh_at (n := n) hn l (i + 1) i hS.left (by omega)
    have hr := MT.sh_at (n := n) hn r (i + 1 + l.count) i hS.right (by omega)
    obtain ⟨h1, -⟩ := h i (knOf y) (MT.sh l (i + 1)) (MT.sh r (i + 1 + l.count)) (by omega) (by rw [List.getElem?_map, hy]; rfl) (by show (MT.sh l (i + 1)).At _ _ n y.l i; rw [a3]; exact hl) (by show (MT.sh r (i + 1 + l.count)).At _ _ n y.r i; rw [a4]; exact hr)
    refine ⟨fun x hx => ?_, ihl (i + 1) hS.left, ihr (i + 1 + l.count) hS.right⟩
    have hm : some x.xs ∈ (MT.sh l (i + 1)).ord.map (fun k => (rs[k]?).map fun y => y.p.xs) := by
      rw [MT.sh_pts l (i + 1) hS.left]
      exact List.mem_map_of_mem (f := fun p : TP => some p.xs) hx
    obtain ⟨j, hj, ej⟩ := List.mem_map.1 hm
    obtain ⟨q, hq⟩ := List.getElem?_of_mem hj
    cases hz : rs[j]? with
    | none => rw [hz] at ej; cases ej
    | some z =>
      rw [hz] at ej
      have ez : z.p.xs = x.xs := by simpa using ej
      have := h1 q j (knOf z) hq (by rw [List.getElem?_map, hz]; rfl)
      simp only [knOf, ptOf, Int.toNat_natCast, a1, a2, ez] at this
      exact this

theorem within_eq {dims : Nat} {lo hi : List Nat} : ∀ t : MT, (∀ p ∈ t.pts, p.xs.length = dims ∧ p.Gr) → t.T.Ord leB → t.T.Each (fun _ d => d < dims) → NEl lo t → t.within lo hi = (t.pts.map TP.xs).filter fun p => decide (inBox lo hi p) := by
  intro t
  induction t with
  | nil => intro _ _ _ _; rfl
  | node g p d bx l r ihl ihr =>
    intro hP ho he hn
    obtain ⟨o1, o2, o3, o4⟩ := ho
    obtain ⟨hd, e1, e2⟩ := he
    obtain ⟨n1, n2, n3⟩ := hn
    have wh : ∀ x : TP, x.xs.length = dims ∧ x.Gr → Wh (x.n d) (zi (x.xs.getD d 0)) := fun x hx => by
      obtain ⟨a, ha⟩ := hx.2 d (by rw [hx.1]; exact hd)
      have : x.xs.getD d 0 = x.n d := by simp [TP.n, List.getD]
      rw [this]
      exact zi_wh ⟨a, ha⟩
    have hp := hP p (by simp [MT.pts])
    have el := ihl (fun x hx => hP x (by simp [MT.pts, hx])) o3 e1 n2
    have er := ihr (fun x hx => hP x (by simp [MT.pts, hx])) o4 e2 n3
    have hl : (if zi (lo.getD d 0) < zi (p.xs.getD d 0) then l.within lo hi else []) = (l.pts.map TP.xs).filter fun p => decide (inBox lo hi p) := by
      by_cases h : zi (lo.getD d 0) < zi (p.xs.getD d 0)
      · rw [if_pos h, el]
      · rw [if_neg h]
        refine (List.filter_eq_nil_iff.2 fun xs hxs => ?_).symm
        obtain ⟨x, hx, rfl⟩ := List.mem_map.1 hxs
        have hx2 := hP x (by simp [MT.pts, hx])
        have hle := o1 x (by rw [← MT.pts_all]; exact hx)
        rw [leB_int (wh x hx2) (wh p hp)] at hle
        have hle := of_decide_eq_true hle
        intro hin
        have hin := (of_decide_eq_true hin) d (by rw [hx2.1]; exact hd)
        exact n1 x hx ⟨by omega, by omega⟩
    have hr : (if zi (p.xs.getD d 0) < zi (hi.getD d 0) then r.within lo hi else []) = (r.pts.map TP.xs).filter fun p => decide (inBox lo hi p) := by
      by_cases h : zi (p.xs.getD d 0) < zi (hi.getD d 0)
      · rw [if_pos h, er]
      · rw [if_neg h]
        refine (List.filter_eq_nil_iff.2 fun xs hxs => ?_).symm
        obtain ⟨x, hx, rfl⟩ := List.mem_map.1 hxs
        have hx2 := hP x (by simp [MT.pts, hx])
        have hle := o2 x (by rw [← MT.pts_all]; exact hx)
        rw [leB_int (wh x hx2) (wh p hp)] at hle
        have hle := of_decide_eq_false hle
        intro hin
        have hin := (of_decide_eq_true hin) d (by rw [hx2.1]; exact hd)
        omega
    simp only [MT.within, MT.pts, List.map_append, List.map_cons, List.filter_append, List.filter_cons, hl, hr]
    by_cases h : inBox lo hi p.xs
    · rw [if_pos h, decide_eq_true h]; rfl
    · rw [if_neg h, decide_eq_false h]; rfl

theorem flat_box {dims : Nat} : ∀ (t : MT) (i : Nat), t.BoxOfs dims → ∀ x ∈ t.flat i, x.mn.length = dims ∧ x.mx.length = dims := by
  intro t
  induction t with
  | nil => intro i _ x hx; cases hx
  | node g p d bx l r ihl ihr =>
    rintro i ⟨⟨b, rfl, hb⟩, h1, h2⟩ x hx
    rcases List.mem_cons.1 hx with rfl | hx
    · exact ⟨hb.lmn, hb.lmx⟩
    · rcases List.mem_append.1 hx with hx | hx
      · exact ihl _ h1 x hx
      · exact ihr _ h2 x hx

/-- The whole walk's points are the tree's. -/
theorem walk_pts {rs : List KR} {n : Nat} {mt : MT} (hn : rs.length = n) (h0 : 0 < n) (h : rs.map KR.plain = mt.flat 0) : (ino (KC (rs.map knOf)) (KF (rs.map knOf)) n 0 0).length = n ∧ (ino (KC (rs.map knOf)) (KF (rs.map knOf)) n 0 0).map (fun p => PX (rs.map knOf) p.1) = mt.pts.map TP.xs := by
  have hc : mt.count = n := by have := congrArg List.length h; rw [List.length_map, MT.flat_len] at this; omega
  have hS := seg_root h
  have hat := MT.sh_at (n := n) hn mt 0 (-1) hS (by omega)
  rw [MT.at_zero (by omega)] at hat
  have hch : chl (KC (rs.map knOf)) (KF (rs.map knOf)) n 0 (-1) 0 = ino (KC (rs.map knOf)) (KF (rs.map knOf)) n 0 0 := by
    unfold chl
    rw [if_pos ⟨by omega, by omega⟩]
    rfl
  have h1 := (MT.sh mt 0).at_len (d := 0) hat
  have h2 := (MT.sh mt 0).at_chl (d := 0) hat (by omega)
  rw [hch] at h1 h2
  refine ⟨by rw [h1, (MT.sh_ids mt 0).1.2, hc], ?_⟩
  have e : (ino (KC (rs.map knOf)) (KF (rs.map knOf)) n 0 0).map (fun p => PX (rs.map knOf) p.1) = ((ino (KC (rs.map knOf)) (KF (rs.map knOf)) n 0 0).map (·.1)).map (PX (rs.map knOf)) := by rw [List.map_map]; rfl
  rw [e, h2, List.map_map]
  have h3 := MT.sh_pts mt 0 hS
  have h4 : (MT.sh mt 0).ord.map (PX (rs.map knOf) ∘ Int.ofNat) = ((MT.sh mt 0).ord.map (fun k => (rs[k]?).map fun y => y.p.xs)).map (fun o => o.getD []) := by
    rw [List.map_map]
    refine List.map_congr_left fun k hk => ?_
    show PX (rs.map knOf) (k : Int) = _
    unfold PX
    rw [Int.toNat_natCast, List.getElem?_map]
    cases hr : rs[k]? <;> simp [knOf, ptOf, hr]
  rw [h4, h3, List.map_map]
  rfl
end Go.Proofs.Ytmeooadgdagiiaa.W

namespace Lox
open Go Go.RowKit
set_option linter.unusedVariables false

/-- How many of a key have been taken. -/
def cu (κ : List Int) : List Bool → List (List Int) → Nat
  | true :: U, k :: ks => (if k = κ then 1 else 0) + cu κ U ks
  | false :: U, _ :: ks => cu κ U ks
  | [], _ => 0
  | true :: _, [] => 0
  | false :: _, [] => 0

theorem cu_set (κ : List Int) : ∀ (U : List Bool) (ks : List (List Int)) (j : Nat) (k : List Int), U[j]? = some false → ks[j]? = some k → cu κ (U.set j true) ks = cu κ U ks + (if k = κ then 1 else 0) := by
  intro U
  induction U with
  | nil => intro ks j k h; simp at h
  | cons b U ih =>
    intro ks j k h hk
    cases ks with
    | nil => simp at hk
    | cons a ks =>
      cases j with
      | zero =>
        simp only [List.getElem?_cons_zero, Option.some.injEq] at h hk
        subst h hk
        simp only [List.set_cons_zero, cu]
        omega
      | succ j =>
        simp only [List.getElem?_cons_succ] at h hk
        have := ih ks j k h hk
        cases b <;> simp only [List.set_cons_succ, cu, this]
        omega

theorem cu_all (κ : List Int) : ∀ (U : List Bool) (ks : List (List Int)), U.length = ks.length → (∀ j : Nat, ks[j]? = some κ → U[j]? = some true) → cu κ U ks = ks.count κ := by
  intro U
  induction U with
  | nil => intro ks hl _; have : ks = [] := List.length_eq_zero_iff.1 hl.symm; rw [this]; rfl
  | cons b U ih =>
    intro ks hl h
    cases ks with
    | nil => cases hl
    | cons a ks =>
      have h2 := ih ks (by simpa using hl) fun j hj => by have := h (j + 1) (by simpa using hj); simpa using this
      have h0 := h 0
      simp only [List.getElem?_cons_zero, Option.some.injEq] at h0
      rw [List.count_cons]
      cases b with
      | true =>
        simp only [cu, h2]
        by_cases ha : a = κ
        · rw [if_pos ha, if_pos (by rw [ha]; exact beq_self_eq_true _)]; omega
        · rw [if_neg ha, if_neg (by simpa using ha)]; omega
      | false =>
        have ha : ¬ a = κ := fun e => by cases h0 e
        simp only [cu, h2]
        rw [if_neg (by simpa using ha)]
        omega

theorem cu_zero (κ : List Int) : ∀ (m : Nat) (ks : List (List Int)), cu κ (List.replicate m false) ks = 0 := by
  intro m
  induction m with
  | zero => intro ks; rfl
  | succ m ih => intro ks; rw [List.replicate_succ]; cases ks <;> simp [cu, ih]

theorem cu_left {κ : List Int} {U : List Bool} {ks gs : List (List Int)} {k : Nat} (hl : U.length = ks.length) (hU : cu κ U ks = (gs.take k).count κ) (hk : gs[k]? = some κ) (hc : gs.count κ ≤ ks.count κ) (h : ∀ j : Nat, j < ks.length → U[j]? = some true ∨ ks[j]? ≠ some κ) : False := by
  have h1 := cu_all κ U ks hl fun j hj => by
    rcases h j (List.getElem?_eq_some_iff.1 hj).1 with h | h
    · exact h
    · exact absurd hj h
  have h2 : (gs.take (k + 1)).count κ ≤ gs.count κ := (List.take_sublist _ _).count_le κ
  rw [List.take_add_one, hk, List.count_append] at h2
  simp only [Option.toList_some, List.count_singleton_self] at h2
  omega
end Lox
namespace Go.Proofs.Ytmeooadgdagiiaa
open Go.RowKit Lox
set_option linter.unusedVariables false
attribute [local go_sem] run_store_flt run_store_fn

/-- A point's numbers. -/
noncomputable def TP.key (p : TP) : List Int := p.xs.map zi

set_option maxHeartbeats 1000000 in
theorem same_at (A B : Option Addr) (n c c' : Nat) (xs ys : List Nat) (b : Bool) (w : World) (ha : Sl w A n 1 (flts xs)) (hb : Sl w B n 1 (flts ys)) (hn : n ≤ 9223372036854775807) (hx : ∀ x ∈ xs, ∃ n, Wh x n) (hy : ∀ x ∈ ys, ∃ n, Wh x n) (hbb : b = decide (xs.map zi = ys.map zi)) :
    Calls Try.prog 15 #[.slice A n c, .slice B n c'] w fun e w' => e = .returned (.bool b) ∧ w = w' := by
  have hl : xs.length = n := by have := ha.1; simpa [flts] using this
  have hl2 : ys.length = n := by have := hb.1; simpa [flts] using this
  have HH := Lib.hid (And.intro ha (And.intro hb (And.intro hx (And.intro hy (And.intro hl (And.intro hl2 hbb))))))
  clear ha hb hx hy hl hl2 hbb
  go_enter Try.func15, Try.ntmps15
  go_wp2
  go_loop [14] (fun i => ∃ k : Nat, k ≤ n ∧ i = .int .i64 k ∧ Hid (∀ j, j < k → zi (xs.getD j 0) = zi (ys.getD j 0))) (fun i => n - (intOf i).toNat)
  case atStart => exact ⟨0, Nat.zero_le _, rfl, fun j hj => by omega⟩
  case round =>
    obtain ⟨k, hk, rfl, HR⟩ := hrel
    by_cases hlt : k < n
    · obtain ⟨b1, o1, v1, e1, f1, c1⟩ := HH.out.1.at1 hlt
      obtain ⟨b2, o2, v2, e2, f2, c2⟩ := HH.out.2.1.at1 hlt
      have k1 : k < xs.length := by rw [HH.out.2.2.2.2.1]; exact hlt
      have k2 : k < ys.length := by rw [HH.out.2.2.2.2.2.1]; exact hlt
      rw [flts_getD k1] at f1
      rw [flts_getD k2] at f2
      cases f1
      cases f2
      have gx : ∃ n, Wh (xs.getD k 0) n := HH.out.2.2.1 _ (mem_getD k1)
      have gy : ∃ n, Wh (ys.getD k 0) n := HH.out.2.2.2.1 _ (mem_getD k2)
      have heq := (zi_wh gx).1.eq (zi_wh gy).1
      have HK := Lib.hid (And.intro k1 k2)
      subst e1 e2
      by_cases hz : zi (xs.getD k 0) = zi (ys.getD k 0)
      · rw [decide_eq_true hz] at heq
        have HZ := Lib.hid hz
        clear hz gx gy k1 k2
        generalize xs.getD k 0 = x at c1 heq
        generalize ys.getD k 0 = y at c2 heq
        have hne : (FloatKind.f64.format.order x y != some .eq) = false := by rw [bne, heq]; rfl
        go_wp2
        go_round
        case rel =>
          refine ⟨k + 1, by omega, by go_num, fun j hj => ?_⟩
          rcases Nat.lt_or_ge j k with h | h
          · exact HR.out j h
          · obtain rfl : j = k := by omega
            exact HZ.out
        case measure => simp [intOf]; omega
      · rw [decide_eq_false hz] at heq
        have HZ : Hid (b = false) := by
          show b = false
          rw [HH.out.2.2.2.2.2.2]
          refine decide_eq_false fun e => hz ?_
          have h1 := congrArg (fun l => l[k]?) e
          simp only [List.getElem?_map, List.getElem?_eq_getElem HK.out.1, List.getElem?_eq_getElem HK.out.2, Option.map_some, Option.some.injEq] at h1
          have a1 : xs.getD k 0 = xs[k]'HK.out.1 := by simp [HK.out.1]
          have a2 : ys.getD k 0 = ys[k]'HK.out.2 := by simp [HK.out.2]
          rw [a1, a2]
          exact h1
        clear hz gx gy k1 k2
        generalize xs.getD k 0 = x at c1 heq
        generalize ys.getD k 0 = y at c2 heq
        have hne : (FloatKind.f64.format.order x y != some .eq) = true := by rw [bne, heq]; rfl
        go_wp2
        go_ret
        exact ⟨by rw [HZ.out]; rfl, rfl⟩
    · obtain rfl : k = n := by omega
      have HZ : Hid (b = true) := by
        show b = true
        rw [HH.out.2.2.2.2.2.2]
        refine decide_eq_true (List.ext_getElem (by simp [HH.out.2.2.2.2.1, HH.out.2.2.2.2.2.1]) fun j h1 h2 => ?_)
        rw [List.length_map] at h1 h2
        have := HR.out j (by have := HH.out.2.2.2.2.1; omega)
        simpa [h1, h2] using this
      go_wp2
      go_ret
      exact ⟨by rw [HZ.out]; rfl, rfl⟩

theorem info_bool : (Try.prog.info? 4).map (fun i => (i.zero, i.size, i.bytes)) = some (some (.bool false), 1, 1) := by kernel_rfl

theorem blk_of_full {w : World} {B e n g : Nat} {xs : List Value} (h : w.ownsRow B e 1 (.slice (some ⟨g, 0, none⟩) n n) n xs) : Blk w g e xs := by
  obtain ⟨h1, h2⟩ := h
  rcases h2 with ⟨h2, _⟩ | ⟨g', cap, cur, h2, hb, hg, hn, hm, hs, ht⟩
  · cases h2
  · simp only [Value.slice.injEq, Option.some.injEq, Addr.mk.injEq] at h2
    obtain ⟨⟨rfl, _⟩, _, rfl⟩ := h2
    unfold Blk
    rw [hg]
    have : cur.toList = xs := by rw [← ht, List.take_of_length_le (by simp; omega)]
    rw [← this]

theorem made_falses (n : Nat) : (madeCells (Value.bool false).cells (n * 1)).toList = (List.replicate n false).map Value.bool := by
  apply List.ext_getElem?
  intro i
  simp [madeCells, Value.cells, List.getElem?_replicate]
  by_cases hi : i < n <;> simp [hi]
  simp [Nat.mod_one]

/-- The outer loop's state: which have been taken. -/
structure AM (H m : Nat) (gs ps : List TP) (k : Nat) (U : List Bool) (w w' : World) : Prop where
  blk : Blk w' H 4 (U.map Value.bool)
  len : U.length = m
  cnt : ∀ κ, cu κ U (ps.map TP.key) = ((gs.map TP.key).take k).count κ
  mod : Mod (fun _ => False) w w'

theorem AM.step {H m k j : Nat} {gs ps : List TP} {U : List Bool} {w w' : World} {p q : TP} (h : AM H m gs ps k U w w') (hH : w.heap.size ≤ H) (hp : gs[k]? = some p) (hq : ps[j]? = some q) (hU : U[j]? = some false) (he : p.key = q.key) : AM H m gs ps (k + 1) (U.set j true) w (w'.setCell ⟨H, j, none⟩ (.bool true)) := by
  refine ⟨?_, by rw [List.length_set]; exact h.len, fun κ => ?_, h.mod.set (p := ⟨H, j, none⟩) (.inr hH) _⟩
  · have := h.blk.set j (.bool true)
    rw [List.map_set]
    exact this
  · have hk : (gs.map TP.key)[k]? = some p.key := by rw [List.getElem?_map, hp]; rfl
    rw [cu_set κ U _ j q.key hU (by rw [List.getElem?_map, hq]; rfl), h.cnt κ, List.take_add_one, hk, List.count_append]
    simp only [Option.toList_some, List.count_singleton]
    rw [he]
    by_cases e : q.key = κ
    · rw [if_pos e, if_pos (by rw [e]; exact beq_self_eq_true _)]
    · rw [if_neg e, if_neg (by simpa using e)]

set_option maxRecDepth 100000 in
set_option maxHeartbeats 8000000 in
theorem among_at (A I : Option Addr) (n c m ci dims : Nat) (gs ps : List TP) (w : World) (hg : PRows w A n gs dims) (hp : PRows w I m ps dims) (gg : ∀ p ∈ gs, p.Gr) (gp : ∀ p ∈ ps, p.Gr) (hn : n ≤ 2147483647 ∧ m ≤ 2147483647) (hd : dims ≤ 9223372036854775807) (hc : ∀ κ, (gs.map TP.key).count κ ≤ (ps.map TP.key).count κ) :
    Calls Try.prog 52 #[.slice A n c, .slice I m ci] w fun e w' => e = .returned (.bool true) ∧ Mod (fun _ => False) w w' := by
  obtain ⟨i0, hi0, hz0, hz1, hz2⟩ := info_parts info_bool
  have HI := Lib.hid (And.intro hi0 (And.intro hz0 (And.intro hz1 hz2)))
  clear hi0 hz0 hz1 hz2
  have hgl := hg.len
  have hpl := hp.len
  have HH := Lib.hid (And.intro hg (And.intro hp (And.intro gg (And.intro gp (And.intro hc (And.intro hgl hpl))))))
  clear hg hp gg gp hc hgl hpl
  go_enter Try.func52, Try.ntmps52
  go_wp2_with (at_make; refine wpList_make_full _ rfl _ _ 130 rfl 0 4 i0 (.bool false) 1 Try.underlying130 HI.out.1 HI.out.2.1 HI.out.2.2.1 _ _ _ _ m rfl rfl rfl rfl (by rw [HI.out.2.2.2]; omega) (by unfold maxLen; omega) (Nat.zero_le _) ?_; intro w3 hown3 hgrow3)
  have hseen : Blk w3 w.heap.size 4 ((List.replicate m false).map Value.bool) := by
    rw [← made_falses]; exact blk_of_full hown3
  have hm3 : Mod (fun _ => False) w w3 := mod_of_grown hgrow3
  have HA0 : Hid (AM w.heap.size m gs ps 0 (List.replicate m false) w w3) := ⟨hseen, by simp, fun κ => by rw [cu_zero]; rfl, hm3⟩
  obtain ⟨H, hH⟩ : ∃ H, H = w.heap.size := ⟨_, rfl⟩
  rw [← hH] at HA0
  rw [← hH]
  have HHH := Lib.hid hH
  clear hown3 hgrow3 hseen hm3 hH
  go_loopw [16] (fun i wr => ∃ (k : Nat) (U : List Bool), k ≤ n ∧ i = .int .i64 k ∧ Hid (AM H m gs ps k U w wr)) (fun i _ => n - (intOf i).toNat)
  case atStart => exact ⟨0, _, Nat.zero_le _, rfl, HA0.out⟩
  case round =>
    obtain ⟨k, U, hk, rfl, HR⟩ := hrel
    by_cases hlt : k < n
    · have hgr := HH.out.1.mod HR.out.mod
      obtain ⟨b, o, v0, e1, e2, c1⟩ := hgr.1.at1 hlt
      have hk2 : k < gs.length := by rw [HH.out.2.2.2.2.2.1]; exact hlt
      obtain ⟨p, ep⟩ : ∃ p, p = gs[k] := ⟨_, rfl⟩
      have hpk : gs[k]? = some p := by rw [ep]; exact List.getElem?_eq_getElem hk2
      have hpm : p ∈ gs := List.mem_of_getElem? hpk
      have e3 : (gs.map TP.v)[k]? = some p.v := by rw [List.getElem?_map, hpk]; rfl
      rw [e3] at e2
      cases e2
      obtain ⟨hrd, hpl⟩ := hgr.2 p hpm
      have c2 : wr.cell? ⟨b, o + k, none⟩ = some (.slice p.A dims p.c) := by rw [c1, ← hpl]; rfl
      have hsp : Sl wr p.A dims 1 (flts p.xs) := by rw [← hpl]; exact hrd.1
      have HP := Lib.hid (And.intro hpk (And.intro hsp (TP.gr_iff.1 (HH.out.2.2.1 p hpm))))
      subst e1
      clear hgr hk2 ep hpk hpm e3 c1 hrd hpl hsp
      have i0' : (0 : Int) ≤ k := by omega
      have i1' : (k : Int) < n := by omega
      go_wp2
      go_loop [22] (fun i => ∃ j : Nat, j ≤ m ∧ i = .int .i64 j ∧ Hid (∀ j' : Nat, j' < j → U[j']? = some true ∨ (ps.map TP.key)[j']? ≠ some p.key)) (fun i => m - (intOf i).toNat)
      case atStart => exact ⟨0, Nat.zero_le _, rfl, fun j' hj => by omega⟩
      case round =>
        obtain ⟨j, hj, rfl, HJ⟩ := hrel
        by_cases hlj : j < m
        · have hpr := HH.out.2.1.mod HR.out.mod
          obtain ⟨b2, o2, v2, f1, f2, d1⟩ := hpr.1.at1 hlj
          have hj2 : j < ps.length := by rw [HH.out.2.2.2.2.2.2]; exact hlj
          obtain ⟨q, eq⟩ : ∃ q, q = ps[j] := ⟨_, rfl⟩
          have hqj : ps[j]? = some q := by rw [eq]; exact List.getElem?_eq_getElem hj2
          have hqm : q ∈ ps := List.mem_of_getElem? hqj
          have f3 : (ps.map TP.v)[j]? = some q.v := by rw [List.getElem?_map, hqj]; rfl
          rw [f3] at f2
          cases f2
          obtain ⟨hrd, hql⟩ := hpr.2 q hqm
          have d2 : wr.cell? ⟨b2, o2 + j, none⟩ = some (.slice q.A dims q.c) := by rw [d1, ← hql]; rfl
          have hsq : Sl wr q.A dims 1 (flts q.xs) := by rw [← hql]; exact hrd.1
          obtain ⟨u, hu⟩ : ∃ u, U[j]? = some u := ⟨_, List.getElem?_eq_getElem (by rw [HR.out.len]; exact hlj)⟩
          have x0 : wr.cell? ⟨H, j, none⟩ = some (.bool u) := HR.out.blk.at (i := j) (by rw [List.getElem?_map, hu]; rfl)
          have z0 := HR.out.blk.frozen j
          have HQ := Lib.hid (And.intro hqj (And.intro hsq (And.intro (TP.gr_iff.1 (HH.out.2.2.2.1 q hqm)) hu)))
          have hkq : Hid ((ps.map TP.key)[j]? = some q.key) := by show _ = _; rw [List.getElem?_map, hqj]; rfl
          subst f1
          clear hpr hj2 eq hqj hqm f3 d1 hrd hql hsq hu
          have j0' : (0 : Int) ≤ j := by omega
          have j1' : (j : Int) < m := by omega
          cases u with
          | true =>
            go_wp2
            go_round
            case rel =>
              refine ⟨j + 1, by omega, by go_num, fun j' hj' => ?_⟩
              rcases Nat.lt_or_ge j' j with h | h
              · exact HJ.out j' h
              · obtain rfl : j' = j := by omega
                exact .inl HQ.out.2.2.2
            case measure => simp [intOf]; omega
          | false =>
            by_cases hkk : p.key = q.key
            · have HK := Lib.hid hkk
              clear hkk
              go_wp2_with (go_at_call 15; refine (same_at p.A q.A dims p.c q.c p.xs q.xs true _ HP.out.2.1 HQ.out.2.1 hd HP.out.2.2 HQ.out.2.2.1 (decide_eq_true HK.out).symm).mono ?_; rintro _ _ ⟨rfl, rfl⟩)
              go_roundw
              case rel => exact ⟨k + 1, U.set j true, by omega, by go_num, HR.out.step (by rw [HHH.out]; exact Nat.le_refl _) HP.out.1 HQ.out.1 HQ.out.2.2.2 HK.out⟩
              case measure => simp [intOf]; omega
            · have HK := Lib.hid hkk
              clear hkk
              go_wp2_with (go_at_call 15; refine (same_at p.A q.A dims p.c q.c p.xs q.xs false _ HP.out.2.1 HQ.out.2.1 hd HP.out.2.2 HQ.out.2.2.1 (decide_eq_false HK.out).symm).mono ?_; rintro _ _ ⟨rfl, rfl⟩)
              go_round
              case rel =>
                refine ⟨j + 1, by omega, by go_num, fun j' hj' => ?_⟩
                rcases Nat.lt_or_ge j' j with h | h
                · exact HJ.out j' h
                · obtain rfl : j' = j := by omega
                  refine .inr fun e => ?_
                  rw [hkq.out] at e
                  injection e with e
                  exact HK.out e.symm
              case measure => simp [intOf]; omega
        · obtain rfl : j = m := by omega
          exact (cu_left (U := U) (ks := ps.map TP.key) (gs := gs.map TP.key) (k := k) (κ := p.key) (by rw [List.length_map, HR.out.len, HH.out.2.2.2.2.2.2]) (HR.out.cnt _) (by rw [List.getElem?_map, HP.out.1]; rfl) (HH.out.2.2.2.2.1 _) (fun j' hj' => HJ.out j' (by rw [List.length_map, HH.out.2.2.2.2.2.2] at hj'; exact hj'))).elim
    · obtain rfl : k = n := by omega
      go_wp2
      go_ret
      exact ⟨rfl, HR.out.mod⟩
end Go.Proofs.Ytmeooadgdagiiaa

namespace Go.Proofs.Ytmeooadgdagiiaa.W
open Go.RowKit Lox
set_option linter.unusedVariables false
attribute [local go_sem] run_store_flt run_store_fn

theorem lt_look {a b : Nat} (ha : ∃ n, Wh a n) (hb : ∃ n, Wh b n) : (FloatKind.f64.format.order a b == some .lt) = decide (zi a < zi b) := (zi_wh ha).1.lt (zi_wh hb).1
theorem gt_look {a b : Nat} (ha : ∃ n, Wh a n) (hb : ∃ n, Wh b n) : (FloatKind.f64.format.order a b == some .gt) = decide (zi b < zi a) := (zi_wh ha).1.gt (zi_wh hb).1

set_option maxRecDepth 100000 in
set_option maxHeartbeats 4000000 in
theorem within_at (A B C : Option Addr) (n ca cb cc : Nat) (lo hi p : List Nat) (w : World) (h1 : Sl w A n 1 (flts lo)) (h2 : Sl w B n 1 (flts hi)) (h3 : Sl w C n 1 (flts p)) (g1 : ∀ x ∈ lo, ∃ n, Wh x n) (g2 : ∀ x ∈ hi, ∃ n, Wh x n) (g3 : ∀ x ∈ p, ∃ n, Wh x n) (hn : 0 < n ∧ n ≤ 1099511627776) :
    Calls Try.prog 18 #[.slice A n ca, .slice B n cb, .slice C n cc] w fun e w' => e = .returned (.bool (decide (inBox lo hi p))) ∧ w = w' := by
  have l1 : lo.length = n := by have := h1.1; simpa [flts] using this
  have l2 : hi.length = n := by have := h2.1; simpa [flts] using this
  have l3 : p.length = n := by have := h3.1; simpa [flts] using this
  obtain ⟨ba, oa, rfl, -⟩ := slf_at h1 (d := 0) (by omega)
  obtain ⟨bb, ob, rfl, -⟩ := slf_at h2 (d := 0) (by omega)
  obtain ⟨bc, oc, rfl, -⟩ := slf_at h3 (d := 0) (by omega)
  have HC : Hid (∀ d, d < n → (w.cell? ⟨ba, oa + d, none⟩ = some (.float .f64 (lo.getD d 0)) ∧ ∃ n, Wh (lo.getD d 0) n) ∧ (w.cell? ⟨bb, ob + d, none⟩ = some (.float .f64 (hi.getD d 0)) ∧ ∃ n, Wh (hi.getD d 0) n) ∧ (w.cell? ⟨bc, oc + d, none⟩ = some (.float .f64 (p.getD d 0)) ∧ ∃ n, Wh (p.getD d 0) n)) := fun d hd => by
    obtain ⟨_, _, e1, c1⟩ := slf_at h1 hd
    obtain ⟨_, _, e2, c2⟩ := slf_at h2 hd
    obtain ⟨_, _, e3, c3⟩ := slf_at h3 hd
    cases e1
    cases e2
    cases e3
    exact ⟨⟨c1, g1 _ (mem_getD (by omega))⟩, ⟨c2, g2 _ (mem_getD (by omega))⟩, ⟨c3, g3 _ (mem_getD (by omega))⟩⟩
  have HL := Lib.hid l3
  clear h1 h2 h3 g1 g2 g3 l1 l2 l3
  go_enter Try.func18, Try.ntmps18
  go_wp2
  go_loopw [11] (fun i wr => ∃ k : Nat, k ≤ n ∧ i = .int .i64 k ∧ w = wr ∧ Hid (∀ d, d < k → zi (lo.getD d 0) ≤ zi (p.getD d 0) ∧ zi (p.getD d 0) ≤ zi (hi.getD d 0))) (fun i _ => n - (intOf i).toNat)
  case atStart => exact ⟨0, Nat.zero_le _, rfl, rfl, fun d hd => by omega⟩
  case round =>
    obtain ⟨k, hk, rfl, rfl, HR⟩ := hrel
    by_cases hlt : k < n
    · obtain ⟨⟨c1, w1⟩, ⟨c2, w2⟩, ⟨c3, w3⟩⟩ := HC.out k hlt
      have f1 := lt_look w3 w1
      have f2 := gt_look w3 w2
      obtain ⟨a, ea⟩ : ∃ a, a = lo.getD k 0 := ⟨_, rfl⟩
      obtain ⟨b, eb⟩ : ∃ b, b = hi.getD k 0 := ⟨_, rfl⟩
      obtain ⟨x, exx⟩ : ∃ x, x = p.getD k 0 := ⟨_, rfl⟩
      rw [← ea] at c1 f1
      rw [← eb] at c2 f2
      rw [← exx] at c3 f1 f2
      have HE := Lib.hid (And.intro ea (And.intro eb exx))
      clear w1 w2 w3 ea eb exx
      have i0' : (0 : Int) ≤ k := by omega
      have i1' : (k : Int) < n := by omega
      by_cases q1 : zi x < zi a
      · rw [decide_eq_true q1] at f1
        have HQ := Lib.hid q1
        go_wp2
        go_ret
        exact ⟨congrArg (fun b => Ending.returned (.bool b)) (decide_eq_false (p := inBox lo hi p) (fun h => by
          have := (h k (by rw [HL.out]; exact hlt)).1
          rw [← HE.out.1, ← HE.out.2.2] at this
          have := HQ.out
          omega)).symm, rfl⟩
      · rw [decide_eq_false q1] at f1
        by_cases q2 : zi b < zi x
        · rw [decide_eq_true q2] at f2
          have HQ := Lib.hid q2
          go_wp2
          go_ret
          exact ⟨congrArg (fun b => Ending.returned (.bool b)) (decide_eq_false (p := inBox lo hi p) (fun h => by
            have := (h k (by rw [HL.out]; exact hlt)).2
            rw [← HE.out.2.1, ← HE.out.2.2] at this
            have := HQ.out
            omega)).symm, rfl⟩
        · rw [decide_eq_false q2] at f2
          have HQ := Lib.hid (And.intro q1 q2)
          go_wp2
          go_roundw
          case rel =>
            refine ⟨k + 1, by omega, by go_num, by trivial, fun d hd => ?_⟩
            rcases Nat.lt_or_ge d k with h | h
            · exact HR.out d h
            · obtain rfl : d = k := by omega
              rw [← HE.out.1, ← HE.out.2.1, ← HE.out.2.2]
              have := HQ.out
              exact ⟨by omega, by omega⟩
          case measure => simp [intOf]; omega
    · obtain rfl : k = n := by omega
      go_wp2
      go_ret
      exact ⟨congrArg (fun b => Ending.returned (.bool b)) (decide_eq_true (p := inBox lo hi p) (fun d hd => HR.out d (by rw [← HL.out]; exact hd))).symm, rfl⟩

theorem ptsAt_get {w : World} {A : Option Addr} {k i : Nat} {gs : List Value} {ls : List (List Nat)} (hs : Sl w A k 1 gs) (hp : PtsAt w gs ls) (hi : i < k) : ∃ b o A' n' c' xs, A = some ⟨b, o, none⟩ ∧ w.cell? ⟨b, o + i, none⟩ = some (.slice A' n' c') ∧ ls[i]? = some xs ∧ n' ≤ 1099511627776 ∧ Sl w A' n' 1 (flts xs) := by
  obtain ⟨b, o, v, e1, e2, e3⟩ := hs.at1 hi
  have hl : gs.length = k := by have := hs.1; simpa using this
  have hl2 : i < ls.length := by rw [← hp.1, hl]; exact hi
  obtain ⟨A', n', c', ev, hn, hsl⟩ := hp.2 i v ls[i] e2 (List.getElem?_eq_getElem hl2)
  subst ev
  exact ⟨b, o, A', n', c', _, e1, e3, List.getElem?_eq_getElem hl2, hn, hsl⟩

set_option maxRecDepth 100000 in
set_option maxHeartbeats 4000000 in
theorem sameRow_at (A B : Option Addr) (k ca cb : Nat) (g1 g2 : List Value) (ls : List (List Nat)) (w : World) (h1 : Sl w A k 1 g1) (h2 : Sl w B k 1 g2) (p1 : PtsAt w g1 ls) (p2 : PtsAt w g2 ls) (hw : ∀ xs ∈ ls, ∀ x ∈ xs, ∃ n, Wh x n) (hk : k ≤ 1099511627776) :
    Calls Try.prog 20 #[.slice A k ca, .slice B k cb] w fun e w' => e = .returned (.bool true) ∧ w = w' := by
  have HH := Lib.hid (And.intro h1 (And.intro h2 (And.intro p1 (And.intro p2 hw))))
  clear h1 h2 p1 p2 hw
  go_enter Try.func20, Try.ntmps20
  go_wp2
  go_loopw [14] (fun i wr => ∃ j : Nat, j ≤ k ∧ i = .int .i64 j ∧ w = wr) (fun i _ => k - (intOf i).toNat)
  case atStart => exact ⟨0, Nat.zero_le _, rfl, rfl⟩
  case round =>
    obtain ⟨j, hj, rfl, rfl⟩ := hrel
    by_cases hlt : j < k
    · obtain ⟨b1, o1, A1, n1, c1, xs, rfl, q1, e1, l1, s1⟩ := ptsAt_get HH.out.1 HH.out.2.2.1 hlt
      obtain ⟨b2, o2, A2, n2, c2, ys, rfl, q2, e2, l2, s2⟩ := ptsAt_get HH.out.2.1 HH.out.2.2.2.1 hlt
      rw [e1] at e2
      cases e2
      have hn : n1 = n2 := by have a := s1.1; have b := s2.1; simp [flts] at a b; omega
      subst hn
      have HS := Lib.hid (And.intro s1 (And.intro s2 (HH.out.2.2.2.2 xs (List.mem_of_getElem? e1))))
      clear s1 s2 e1
      have i0' : (0 : Int) ≤ j := by omega
      have i1' : (j : Int) < k := by omega
      go_wp2_with (go_at_call 15; refine (same_at A1 A2 n1 c1 c2 xs xs true w HS.out.1 HS.out.2.1 (by omega) HS.out.2.2 HS.out.2.2 (by rw [decide_eq_true rfl])).mono ?_; rintro _ _ ⟨rfl, rfl⟩)
      go_roundw
      case rel => exact ⟨j + 1, by omega, by go_num, by trivial⟩
      case measure => simp [intOf]; omega
    · obtain rfl : j = k := by omega
      go_wp2
      go_ret
      exact ⟨rfl, rfl⟩
end Go.Proofs.Ytmeooadgdagiiaa.W
