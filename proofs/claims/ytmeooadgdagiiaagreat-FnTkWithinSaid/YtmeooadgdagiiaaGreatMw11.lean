/- Steps of a proof, one behind another: The walks of ktree and Nearest. The walk of Node.searchSet over a k-d tree in memory, for any keeper (printed by wip/gen_sset.py). The walks of the laws' looks at points: zzFits4, tSome, SamePoint. The walks of SamePoint and Among over points of whole numbers. The walk of tAll. Conditions: as each theorem says. -/
import Derived.Test.YtmeooadgdagiiaaGreatMw10
import Derived.IntWalk

namespace Lox.KB
variable {α β : Type}
theorem T.map_ord {f : α → β} {le : Nat → α → α → Bool} {le' : Nat → β → β → Bool} (h : ∀ d a b, le d a b = le' d (f a) (f b)) : ∀ t : T α, (t.map f).Ord le' ↔ t.Ord le := by
  intro t
  induction t with
  | nil => exact Iff.rfl
  | node p d l r ihl ihr =>
    simp only [T.map, T.Ord, T.map_all, List.mem_map, ihl, ihr]
    constructor
    · rintro ⟨h1, h2, h3, h4⟩
      exact ⟨fun x hx => by rw [h]; exact h1 _ ⟨x, hx, rfl⟩, fun x hx => by rw [h]; exact h2 _ ⟨x, hx, rfl⟩, h3, h4⟩
    · rintro ⟨h1, h2, h3, h4⟩
      refine ⟨?_, ?_, h3, h4⟩
      · rintro _ ⟨x, hx, rfl⟩; rw [← h]; exact h1 x hx
      · rintro _ ⟨x, hx, rfl⟩; rw [← h]; exact h2 x hx

theorem T.map_each {f : α → β} {P : Nat → Prop} : ∀ t : T α, (t.map f).Each (fun _ d => P d) ↔ t.Each (fun _ d => P d) := by
  intro t
  induction t with
  | nil => exact Iff.rfl
  | node p d l r ihl ihr => simp only [T.map, T.Each, ihl, ihr]
end Lox.KB
namespace Go.Proofs.YtmeooadgdagiiaaGreat
open Go.RowKit Lox
set_option linter.unusedVariables false
attribute [local go_sem] run_store_flt run_store_fn
attribute [local go_sem ↓] Go.wp_at_zero Go.wp_at_succ

/-- The order of points, of their numbers alone. -/
def leX (d : Nat) (a b : List Nat) : Bool := leB d ⟨none, 0, a⟩ ⟨none, 0, b⟩

theorem same_ord {mt mt' : MT} (h : mt'.T.map TP.xs = mt.T.map TP.xs) (ho : mt.T.Ord leB) : mt'.T.Ord leB := by
  have hx : ∀ d (a b : TP), leB d a b = leX d a.xs b.xs := fun d a b => rfl
  rw [← KB.T.map_ord hx, h, KB.T.map_ord hx]
  exact ho

theorem same_each {mt mt' : MT} {dims : Nat} (h : mt'.T.map TP.xs = mt.T.map TP.xs) (ho : mt.T.Each (fun _ d => d < dims)) : mt'.T.Each (fun _ d => d < dims) := by
  rw [← KB.T.map_each (f := TP.xs) (P := fun d => d < dims), h, KB.T.map_each]
  exact ho

theorem same_pts {mt mt' : MT} (h : mt'.T.map TP.xs = mt.T.map TP.xs) : mt'.pts.map TP.xs = mt.pts.map TP.xs := by
  rw [MT.pts_all, MT.pts_all, ← KB.T.map_all, h, KB.T.map_all]

/-- What Nearest finds. -/
theorem near_plain (dims : Nat) (q : TP) (mt : MT) (hql : q.xs.length = dims) (hqg : q.Gr) (hP : ∀ p ∈ mt.pts, p.xs.length = dims ∧ p.Gr) (ho : mt.T.Ord leB) (he : mt.T.Each (fun _ d => d < dims)) (hn : mt ≠ .nil) :
    ∃ p ∈ mt.pts, SS dims q mt none = (some p, some (sqx q.xs p.xs dims)) ∧ ∀ y ∈ mt.pts, sqx q.xs p.xs dims ≤ sqx q.xs y.xs dims := by
  obtain ⟨y, hy⟩ : ∃ y, y ∈ mt.T.all := by
    cases mt with
    | nil => exact absurd rfl hn
    | node g p d bx l r => exact ⟨p, by simp [MT.T, KB.T.all]⟩
  rw [MT.pts_all] at hP ⊢
  obtain ⟨x, hx, e1, e2, e3⟩ := KB.srch_least leB dims (fun x d => zi (x.n d)) (fun d => zi (q.n d)) (fun x => sqx q.xs x.xs dims) (fun x => x.xs.length = dims ∧ x.Gr) (fun d x p hx hp hd => by
      rw [leB_int (zi_wh (hx.2 d (by rw [hx.1]; exact hd))) (zi_wh (hp.2 d (by rw [hp.1]; exact hd)))]
      exact decide_eq_true_iff) (fun x d hx hd => sqx_ge q.xs x.xs d dims hd) mt.T hP ho he hy
  exact ⟨x, hx, Prod.ext e1 e2, e3⟩

/-- What ktree tells. -/
def TrMade (dims n : Nat) (mt : MT) (w : World) (e : Ending) (w' : World) : Prop :=
  ∃ (tb : Nat) (v : Option Addr) (mt' : MT), e = .returned (.pointer (some ⟨tb, 0, none⟩)) ∧ Blk w' tb 56 [.pointer v, .int .i64 n] ∧ mt'.In w' (.pointer v) ∧ mt'.T.map TP.xs = mt.T.map TP.xs ∧ (∀ p ∈ mt'.pts, p.Ok w' dims) ∧ Mod (fun _ => False) w w'

set_option maxHeartbeats 1000000 in
theorem ktree2_at (A : Option Addr) (c n dims B : Nat) (rs : List KR) (hdm : 0 < dims ∧ dims ≤ 4) (hn : n = rs.length) (hbx : ∀ x ∈ rs, x.mn.xs = [] ∨ (x.mn.xs.length = dims ∧ x.mx.xs.length = dims)) (mt : MT) (h0 : mt ≠ .nil) (w : World) (hK : KS B w dims (.slice A n c) rs) (hS : Seg rs mt 0) :
    Calls Tryz.prog 23 #[.slice A n c, .int .i64 0] w (TrMade dims n mt w) := by
  have hat : (0 : Int) = mt.at 0 := by
    cases mt with
    | nil => exact absurd rfl h0
    | node g p d bx l r => rfl
  have HK : Hid (Calls Tryz.prog 34 #[.slice A n c, .int .i64 0] w (KnMade dims mt w)) := knode2_at A c n dims B rs hdm hn hbx mt 0 0 w hat hK hS
  clear hK hS hn hbx hat h0
  go_enter Tryz.func23, Tryz.ntmps23
  go_wp2_with (go_at_call 34; refine HK.out.mono ?_; rintro _ w1 ⟨v, mt', rfl, h1, h2, h3, h4, h5⟩; obtain ⟨q, rfl⟩ := h1.ptr; have HT := Lib.hid (And.intro h1 (And.intro h2 (And.intro h3 (And.intro h4 h5)))); clear h1 h2 h3 h4 h5)
  go_ret
  obtain ⟨h1, h2, h3, h4, h5⟩ := HT.out
  exact ⟨_, q, mt', rfl, Blk.new' _ _ _, h1.mod ((Mod.refl _ _).alloc _) (fun _ _ h => h), h2, fun p hp => (h4 p hp).mod0 ((Mod.refl _ _).alloc _), h5.alloc _⟩

/-- What Nearest tells. -/
def NrTold (dims : Nat) (q : TP) (mt : MT) (w : World) (e : Ending) (w' : World) : Prop :=
  ∃ (p : TP) (r : Nat), e = .returned (.tuple #[.iface 50 (.slice p.A dims p.c), .float .f64 r]) ∧ p ∈ mt.pts ∧ Gd 0 r (sqx q.xs p.xs dims) ∧ (∀ y ∈ mt.pts, sqx q.xs p.xs dims ≤ sqx q.xs y.xs dims) ∧ Mod (fun _ => False) w w'

end Go.Proofs.YtmeooadgdagiiaaGreat

namespace Go.Proofs.YtmeooadgdagiiaaGreat.K
open Go.RowKit Lox Go.Sort
set_option linter.unusedVariables false
attribute [local go_sem] run_store_flt run_store_fn
attribute [local go_sem ↓] Go.wp_at_zero Go.wp_at_succ

/-- What is asked of a keeper .iface T kv: St w ps tells that it has seen the points ps; only blocks of S turn. -/
structure Kpr (T : TypeId) (kv : Value) (gk gm : Nat) (q : TP) (dims : Nat) (S : Nat → Prop) (St : World → List TP → Prop) : Prop where
  findK : ∀ w, (method 279 T kv "Keep").run Tryz.prog w = .ok (gk, kv) w
  findM : ∀ w, (method 279 T kv "Max").run Tryz.prog w = .ok (gm, kv) w
  ahead : ∀ w, (nilAhead 279 T kv "Keep").run Tryz.prog w = .ok (some false) w
  enterK : ∀ args w, (callFunc gk args).run Tryz.prog w = .ok (.enter gk args) w
  enterM : ∀ args w, (callFunc gm args).run Tryz.prog w = .ok (.enter gm args) w
  mod0 : ∀ w w' ps, St w ps → Mod (fun _ => False) w w' → St w' ps
  keep : ∀ w ps (p : TP) r, St w ps → ps.length ≤ 1000000 → DV r (some (sqx q.xs p.xs dims)) → Calls Tryz.prog gk #[kv, .agg #[.iface 50 p.v, .float .f64 r]] w fun e w' => e = .returned (.tuple #[]) ∧ St w' (ps ++ [p]) ∧ Mod S w w'
  max : ∀ w ps, St w ps → Calls Tryz.prog gm #[kv] w fun e w' => ∃ v b, e = .returned (.agg #[v, .float .f64 b]) ∧ St w' ps ∧ Mod (fun _ => False) w w' ∧
    ∀ cc c es, DV cc (some c) → (FloatKind.f64.format.order cc b == some .lt || FloatKind.f64.format.order cc b == some .eq) = false → (∀ e ∈ es, GoodE dims e ∧ c ≤ sqx q.xs e.xs dims) → St w' (ps ++ es)

/-- A point apart from these blocks. -/
def Far (S : Nat → Prop) (p : TP) : Prop := ∀ b o, p.A = some ⟨b, o, none⟩ → ¬ S b

theorem ok_far {S : Nat → Prop} {w w' : World} {dims : Nat} {p : TP} (h : p.Ok w dims) (hf : Far S p) (hm : Mod S w w') : p.Ok w' dims := by
  refine ⟨h.1, h.2.1, fun h0 => ?_⟩
  obtain ⟨b, o, e, hc⟩ := h.2.2 h0
  exact ⟨b, o, e, fun j v hv => (hm.cell (lt_of_cell (hc j v hv)) (hf b o e)).trans (hc j v hv)⟩

/-- The points of a tree, as they are asked for. -/
def PtsOk (S : Nat → Prop) (w : World) (dims : Nat) (l : List TP) : Prop := ∀ p ∈ l, p.Ok w dims ∧ p.Gr ∧ Far S p

theorem PtsOk.mod {S : Nat → Prop} {w w' : World} {dims : Nat} {l : List TP} (h : PtsOk S w dims l) (hm : Mod S w w') : PtsOk S w' dims l := fun p hp => ⟨ok_far (h p hp).1 (h p hp).2.2 hm, (h p hp).2⟩

theorem leB_z {dims : Nat} (d : Nat) (x p : TP) (hx : GoodE dims x) (hp : GoodE dims p) (hd : d < dims) : leB d x p = true ↔ zi (x.n d) ≤ zi (p.n d) := by
  rw [leB_int (zi_wh (hx.1 d (by rw [hx.2]; exact hd))) (zi_wh (hp.1 d (by rw [hp.2]; exact hd)))]
  exact decide_eq_true_iff

theorem far_right {dims pl : Nat} {q p : TP} {l : List TP} (hp : GoodE dims p) (hl : ∀ x ∈ l, GoodE dims x) (hd : pl < dims) (ho : ∀ x ∈ l, leB pl x p = false) {cz : Int} (hcz : cz = zi (q.n pl) - zi (p.n pl)) (hc : cz ≤ 0) : ∀ e ∈ l, GoodE dims e ∧ cz * cz ≤ sqx q.xs e.xs dims := by
  intro x hx
  refine ⟨hl x hx, ?_⟩
  have h2 : ¬ zi (x.n pl) ≤ zi (p.n pl) := fun h => by have := ho x hx; rw [(leB_z pl x p (hl x hx) hp hd).2 h] at this; cases this
  have h5 := sqx_ge q.xs x.xs pl dims hd
  change (zi (q.n pl) - zi (x.n pl)) * (zi (q.n pl) - zi (x.n pl)) ≤ _ at h5
  have h6 := KB.sq_mono (a := zi (p.n pl) - zi (q.n pl)) (b := zi (x.n pl) - zi (q.n pl)) (by omega) (by omega)
  have h7 : cz * cz = (zi (p.n pl) - zi (q.n pl)) * (zi (p.n pl) - zi (q.n pl)) := by rw [hcz, ← Int.neg_mul_neg]; congr 1 <;> omega
  have h8 : (zi (q.n pl) - zi (x.n pl)) * (zi (q.n pl) - zi (x.n pl)) = (zi (x.n pl) - zi (q.n pl)) * (zi (x.n pl) - zi (q.n pl)) := by rw [← Int.neg_mul_neg]; congr 1 <;> omega
  omega

theorem far_left {dims pl : Nat} {q p : TP} {l : List TP} (hp : GoodE dims p) (hl : ∀ x ∈ l, GoodE dims x) (hd : pl < dims) (ho : ∀ x ∈ l, leB pl x p = true) {cz : Int} (hcz : cz = zi (q.n pl) - zi (p.n pl)) (hc : ¬ cz ≤ 0) : ∀ e ∈ l, GoodE dims e ∧ cz * cz ≤ sqx q.xs e.xs dims := by
  intro x hx
  refine ⟨hl x hx, ?_⟩
  have h2 := (leB_z pl x p (hl x hx) hp hd).1 (ho x hx)
  have h5 := sqx_ge q.xs x.xs pl dims hd
  change (zi (q.n pl) - zi (x.n pl)) * (zi (q.n pl) - zi (x.n pl)) ≤ _ at h5
  have h6 := KB.sq_mono (a := zi (q.n pl) - zi (p.n pl)) (b := zi (q.n pl) - zi (x.n pl)) (by omega) (by omega)
  rw [hcz]
  omega

/-- What searchSet tells. -/
def SsTold (S : Nat → Prop) (St : World → List TP → Prop) (ps : List TP) (mt : MT) (w : World) (e : Ending) (w' : World) : Prop :=
  e = .returned (.tuple #[]) ∧ ∃ ps', ps'.Perm mt.pts ∧ St w' (ps ++ ps') ∧ Mod S w w'

theorem none_S {S : Nat → Prop} {w w' : World} (h : Mod (fun _ => False) w w') : Mod S w w' := ⟨h.os, h.tape, h.output, h.size, fun k hk _ => h.block k hk (fun h => h)⟩

theorem run_dist (v : Value) (b : Nat) (w : World) : (Instr.field 95 (.agg #[v, .float .f64 b]) 1).run Tryz.prog w = .ok (.float .f64 b) w := by kernel_rfl
theorem run_cmp (v : Value) (b : Nat) (w : World) : (Instr.field 95 (.agg #[v, .float .f64 b]) 0).run Tryz.prog w = .ok v w := by kernel_rfl

theorem pts_count (g : Nat) (p : TP) (d : Nat) (bx : Option BX) (l r : MT) : (MT.node g p d bx l r).pts.length = l.pts.length + r.pts.length + 1 := by
  show (l.pts ++ p :: r.pts).length = _
  rw [List.length_append, List.length_cons]; omega

theorem node_perm_lo {g d : Nat} {p : TP} {bx : Option BX} {l r : MT} {pn pf : List TP} (h : pn.Perm l.pts) (k : pf.Perm r.pts) : (p :: (pn ++ pf)).Perm (MT.node g p d bx l r).pts :=
  ((h.append k).cons p).trans List.perm_middle.symm

theorem node_perm_hi {g d : Nat} {p : TP} {bx : Option BX} {l r : MT} {pn pf : List TP} (h : pn.Perm r.pts) (k : pf.Perm l.pts) : (p :: (pn ++ pf)).Perm (MT.node g p d bx l r).pts :=
  (((h.append k).trans List.perm_append_comm).cons p).trans List.perm_middle.symm

set_option maxRecDepth 100000 in
set_option maxHeartbeats 16000000 in
theorem sset_at {T : TypeId} {kv : Value} {gk gm dims : Nat} {q : TP} {S : Nat → Prop} {St : World → List TP → Prop} (K : Kpr T kv gk gm q dims S St) (hdm : 0 < dims ∧ dims ≤ 4) (hqg : q.Gr) (hqf : Far S q) (mt : MT) :
    ∀ (w : World) (v : Value) (ps : List TP), mt.In w v → (∀ k ∈ mt.gs, ¬ S k) → q.Ok w dims → PtsOk S w dims mt.pts → mt.T.Ord leB → mt.T.Each (fun _ d => d < dims) → St w ps → ps.length + mt.pts.length ≤ 1000000 →
      Calls Tryz.prog 35 #[v, .iface 50 (.slice q.A dims q.c), .iface T kv] w (SsTold S St ps mt w) := by
  have m1 := kmeth_distance
  have m2 := kmeth_compare
  have m3 := kahead_compare
  have m4 := kahead_distance
  have m5 := run_dist
  have fK := K.findK
  have fM := K.findM
  have aK := K.ahead
  have eK := K.enterK
  have eM := K.enterM
  have KK := Lib.hid K
  clear K
  induction mt with
  | nil =>
    intro w v ps hI hG hq hP hO hE hS hN
    have hv : v = .pointer none := hI
    subst hv
    have HS := Lib.hid hS
    clear hI hG hq hP hO hE hS
    go_enter Tryz.func35, Tryz.ntmps35
    go_wp2
    (try simp only [Exit.inBlock, Exit.then]); refine bodyPost_ret (results_none rfl _ _ _) rfl ?_
    exact ⟨rfl, [], .refl _, by rw [List.append_nil]; exact HS.out, Mod.refl _ _⟩
  | node g p pl bx l r ihl ihr =>
    intro w v ps hI hG hq hP hO hE hS hN
    obtain ⟨hv, lv, rv, hb, hl, hr⟩ := hI
    subst hv
    obtain ⟨ql, rfl⟩ := hl.ptr
    obtain ⟨qr, rfl⟩ := hr.ptr
    have hpp := hP p (by simp [MT.pts])
    have hPl : PtsOk S w dims l.pts := fun x hx => hP x (by simp [MT.pts, hx])
    have hPr : PtsOk S w dims r.pts := fun x hx => hP x (by simp [MT.pts, hx])
    have hGl : ∀ k ∈ l.gs, ¬ S k := fun k hk => hG k (by simp [MT.gs, hk])
    have hGr : ∀ k ∈ r.gs, ¬ S k := fun k hk => hG k (by simp [MT.gs, hk])
    have hgS : ¬ S g := hG g (by simp [MT.gs])
    obtain ⟨ho1, ho2, hOl, hOr⟩ := hO
    obtain ⟨hpl, hEl, hEr⟩ := hE
    rw [pts_count] at hN
    have ha : Wh (q.n pl) (zi (q.n pl)) := zi_wh (hqg pl (by rw [hq.1]; exact hpl))
    have hb2 : Wh (p.n pl) (zi (p.n pl)) := zi_wh (hpp.2.1 pl (by rw [hpp.1.1]; exact hpl))
    have c0 : w.cell? ⟨g, 0, none⟩ = some (.iface 50 (.slice p.A dims p.c)) := by rw [← hpp.1.1]; exact hb.at (i := 0) rfl
    have c1 : w.cell? ⟨g, 1, none⟩ = some (.int .i64 pl) := hb.at (i := 1) rfl
    have hgl := hb.lt
    have gp : GoodE dims p := ⟨hpp.2.1, hpp.1.1⟩
    have glR := far_right (q := q) gp (fun x hx => ⟨(hPr x hx).2.1, (hPr x hx).1.1⟩) hpl (by rw [MT.pts_all]; exact ho2) (cz := zi (q.n pl) - zi (p.n pl)) rfl
    have glL := far_left (q := q) gp (fun x hx => ⟨(hPl x hx).2.1, (hPl x hx).1.1⟩) hpl (by rw [MT.pts_all]; exact ho1) (cz := zi (q.n pl) - zi (p.n pl)) rfl
    have HFR := Lib.hid (And.intro glL glR)
    have HIL := Lib.hid ihl
    have HIR := Lib.hid ihr
    have HAB := Lib.hid (And.intro ha hb2)
    have HL := Lib.hid (And.intro hl (And.intro hGl (And.intro hPl (And.intro hOl hEl))))
    have HR := Lib.hid (And.intro hr (And.intro hGr (And.intro hPr (And.intro hOr hEr))))
    have HB := Lib.hid (And.intro hb hgS)
    have HQ := Lib.hid hq
    have HPP := Lib.hid hpp
    have HS := Lib.hid hS
    have HG := Lib.hid hgS
    clear ihl ihr hq hpp ha hb2 hb hl hr hP hEl hEr hS hG hPl hPr hGl hGr hgS ho1 ho2 hOl hOr gp glR glL
    obtain ⟨cz, hcz⟩ : ∃ cz, cz = zi (q.n pl) - zi (p.n pl) := ⟨_, rfl⟩
    have hcb : cz.natAbs ≤ 2097152 := by have := HAB.out.1.2; have := HAB.out.2.2; omega
    have HCZ := Lib.hid (And.intro hcz hcb)
    have CMP : Hid (∀ w1 : World, Mod (fun _ => False) w w1 → Calls Tryz.prog 99 #[.slice q.A dims q.c, .iface 50 (.slice p.A dims p.c), .int .i64 pl] w1 fun e w' => (∃ r, e = .returned (.float .f64 r) ∧ Gd 0 r cz) ∧ Mod (fun _ => False) w w') := by
      intro w1 hm
      exact (pcompare_at w1 dims pl pl q p _ _ rfl (HQ.out.mod0 hm) (HPP.out.1.mod0 hm) HAB.out.1 HAB.out.2 hpl (by omega)).mono fun e w' ⟨⟨r, he, hr⟩, hm2⟩ => ⟨⟨r, he, by rw [hcz]; exact hr⟩, hm.trans hm2⟩
    have DST : Hid (∀ w1 : World, Mod (fun _ => False) w w1 → Calls Tryz.prog 101 #[.slice q.A dims q.c, .iface 50 (.slice p.A dims p.c)] w1 fun e w' => (∃ r, e = .returned (.float .f64 r) ∧ DV r (some (sqx q.xs p.xs dims))) ∧ w1 = w') := by
      intro w1 hm
      exact (dist_at w1 dims q p (HQ.out.mod0 hm) (HPP.out.1.mod0 hm) hqg HPP.out.2.1 hdm.2).mono fun e w' ⟨⟨r, he, hr⟩, hm2⟩ => ⟨⟨r, he, sq_dv q p dims r w w HQ.out HPP.out.1 hqg HPP.out.2.1 hdm.2 hr⟩, hm2⟩
    have KEP : Hid (∀ (w1 : World) (y : Nat), Mod (fun _ => False) w w1 → DV y (some (sqx q.xs p.xs dims)) → Calls Tryz.prog gk #[kv, .agg #[.iface 50 (.slice p.A dims p.c), .float .f64 y]] w1 fun e w' => e = .returned (.tuple #[]) ∧ Hid (St w' (ps ++ [p])) ∧ Mod S w w') := by
      intro w1 y hm hy
      have := KK.out.keep w1 ps p y (KK.out.mod0 _ _ _ HS.out hm) (by omega) hy
      unfold TP.v at this
      rw [HPP.out.1.1] at this
      exact this.mono fun e w' ⟨he, hs, hm2⟩ => ⟨he, hs, (none_S hm).trans hm2⟩
    clear hcz hcb
    go_enter Tryz.func35, Tryz.ntmps35
    go_wp2_with fail
    go_region_held3 (fun w' => w'.cell? ⟨g, 0, none⟩ = some (.iface 50 (.slice p.A dims p.c)) ∧ w'.cell? ⟨g, 1, none⟩ = some (.int .i64 pl)) (first | exact ⟨c0, c1⟩ | exact ⟨(hm2.cell hgl (fun h => h)).trans c0, (hm2.cell hgl (fun h => h)).trans c1⟩)
      (first | (go_at_call 99; refine (CMP.out _ (by first | exact ((Mod.refl _ _).drewN _).drew | exact (Mod.refl _ _).drewN _)).mono ?_; rintro _ w2 ⟨⟨fr, rfl, hfr⟩, hm2⟩))
    have k0 : w2.cell? ⟨g, 0, none⟩ = some (.iface 50 (.slice p.A dims p.c)) := (hm2.cell hgl (fun h => h)).trans c0
    have HM2 := Lib.hid (And.intro hm2 hfr)
    clear hm2 hfr
    go_upto_region 2 with fail
    go_cut [] from 22 to 41 (fun wx => Hid (St wx (ps ++ [p])) ∧ Mod S w wx)
    case first =>
      go_region_held3 (fun w' => w'.cell? ⟨g, 0, none⟩ = some (.iface 50 (.slice p.A dims p.c))) (first | exact k0 | exact (hm3.cell hgl HG.out).trans c0)
        (first | (go_at_call 101; refine (DST.out _ (by first | exact HM2.out.1.drewN _ | exact (HM2.out.1.drewN _).drew | exact ((HM2.out.1.drewN _).drew).drew)).mono ?_; rintro _ w3 ⟨⟨dr, rfl, hdr⟩, rfl⟩) | (go_at_fn gk; refine (KEP.out _ _ (by first | exact HM2.out.1.drewN _ | exact (HM2.out.1.drewN _).drew | exact ((HM2.out.1.drewN _).drew).drew) hdr).mono ?_; rintro _ w4 ⟨rfl, hst4, hm3⟩))
      all_goals
        go_wp2_with fail
        go_meet
        exact ⟨hst4, hm3⟩
    case rest =>
      obtain ⟨hst, hm⟩ := hcut
      have hlk := look0 HM2.out.2
      obtain ⟨cc, hcc, hdc⟩ := mul_run HM2.out.2 HCZ.out.2
      have k2 : wc.cell? ⟨g, 2, none⟩ = some (.pointer ql) := (HB.out.1.mod hm HB.out.2).at (i := 2) rfl
      have k3 : wc.cell? ⟨g, 3, none⟩ = some (.pointer qr) := (HB.out.1.mod hm HB.out.2).at (i := 3) rfl
      have H3 := Lib.hid (And.intro hst.out (And.intro hm hdc))
      clear hst hm hdc k0 c0 c1
      by_cases hc : cz ≤ 0
      · rw [decide_eq_true hc] at hlk
        go_upto_if 56 with (first | (go_at_call 35; refine (HIL.out wc (.pointer ql) (ps ++ [p]) (HL.out.1.mod H3.out.2.1 HL.out.2.1) HL.out.2.1 (ok_far HQ.out hqf H3.out.2.1) (HL.out.2.2.1.mod H3.out.2.1) HL.out.2.2.2.1 HL.out.2.2.2.2 H3.out.1 (by rw [List.length_append, List.length_singleton]; omega)).mono ?_; rintro _ w4 ⟨rfl, pn, hpn, hst4, hm4⟩; have hln := hpn.length_eq; have H4 := Lib.hid (And.intro hpn (And.intro hst4 (H3.out.2.1.trans hm4))); clear hpn hst4 hm4) | (go_at_fn gm; refine (KK.out.max _ _ H4.out.2.1).mono ?_; rintro _ w5 ⟨v5, b5, rfl, hst5, hm5, hsk⟩; have H5 := Lib.hid (And.intro hst5 (And.intro (H4.out.2.2.trans (none_S hm5)) hsk)); clear hst5 hm5 hsk))
        have kF : w5.cell? ⟨g, 3, none⟩ = some (.pointer qr) := (HB.out.1.mod H5.out.2.1 HB.out.2).at (i := 3) rfl
        cases hg : (FloatKind.f64.format.order cc b5 == some .lt || FloatKind.f64.format.order cc b5 == some .eq) with
        | true =>
          go_wp2_with (go_at_call 35; refine (HIR.out w5 (.pointer qr) ((ps ++ [p]) ++ pn) (HR.out.1.mod H5.out.2.1 HR.out.2.1) HR.out.2.1 (ok_far HQ.out hqf H5.out.2.1) (HR.out.2.2.1.mod H5.out.2.1) HR.out.2.2.2.1 HR.out.2.2.2.2 H5.out.1 (by rw [List.length_append, List.length_append, List.length_singleton]; omega)).mono ?_; rintro _ w6 ⟨rfl, pf, hpf, hst6, hm6⟩; have H6 := Lib.hid (And.intro hpf (And.intro hst6 (H5.out.2.1.trans hm6))); clear hpf hst6 hm6)
          first | go_end0 | ((try simp only [Exit.inBlock, Exit.then]); refine bodyPost_ret (results_none rfl _ _ _) rfl ?_)
          refine ⟨rfl, p :: (pn ++ pf), node_perm_lo H4.out.1 H6.out.1, ?_, H6.out.2.2⟩
          have := H6.out.2.1
          rwa [List.append_assoc, List.append_assoc, List.singleton_append] at this
        | false =>
          go_wp2_with fail
          first | go_end0 | ((try simp only [Exit.inBlock, Exit.then]); refine bodyPost_ret (results_none rfl _ _ _) rfl ?_)
          refine ⟨rfl, p :: (pn ++ r.pts), node_perm_lo H4.out.1 (.refl _), ?_, H5.out.2.1⟩
          have := H5.out.2.2 cc (cz * cz) r.pts H3.out.2.2 hg (by rw [HCZ.out.1]; exact HFR.out.2 (by rw [← HCZ.out.1]; omega))
          rwa [List.append_assoc, List.append_assoc, List.singleton_append] at this
      · rw [decide_eq_false hc] at hlk
        go_upto_if 77 with (first | (go_at_call 35; refine (HIR.out wc (.pointer qr) (ps ++ [p]) (HR.out.1.mod H3.out.2.1 HR.out.2.1) HR.out.2.1 (ok_far HQ.out hqf H3.out.2.1) (HR.out.2.2.1.mod H3.out.2.1) HR.out.2.2.2.1 HR.out.2.2.2.2 H3.out.1 (by rw [List.length_append, List.length_singleton]; omega)).mono ?_; rintro _ w4 ⟨rfl, pn, hpn, hst4, hm4⟩; have hln := hpn.length_eq; have H4 := Lib.hid (And.intro hpn (And.intro hst4 (H3.out.2.1.trans hm4))); clear hpn hst4 hm4) | (go_at_fn gm; refine (KK.out.max _ _ H4.out.2.1).mono ?_; rintro _ w5 ⟨v5, b5, rfl, hst5, hm5, hsk⟩; have H5 := Lib.hid (And.intro hst5 (And.intro (H4.out.2.2.trans (none_S hm5)) hsk)); clear hst5 hm5 hsk))
        have kF : w5.cell? ⟨g, 2, none⟩ = some (.pointer ql) := (HB.out.1.mod H5.out.2.1 HB.out.2).at (i := 2) rfl
        cases hg : (FloatKind.f64.format.order cc b5 == some .lt || FloatKind.f64.format.order cc b5 == some .eq) with
        | true =>
          go_wp2_with (go_at_call 35; refine (HIL.out w5 (.pointer ql) ((ps ++ [p]) ++ pn) (HL.out.1.mod H5.out.2.1 HL.out.2.1) HL.out.2.1 (ok_far HQ.out hqf H5.out.2.1) (HL.out.2.2.1.mod H5.out.2.1) HL.out.2.2.2.1 HL.out.2.2.2.2 H5.out.1 (by rw [List.length_append, List.length_append, List.length_singleton]; omega)).mono ?_; rintro _ w6 ⟨rfl, pf, hpf, hst6, hm6⟩; have H6 := Lib.hid (And.intro hpf (And.intro hst6 (H5.out.2.1.trans hm6))); clear hpf hst6 hm6)
          first | go_end0 | ((try simp only [Exit.inBlock, Exit.then]); refine bodyPost_ret (results_none rfl _ _ _) rfl ?_)
          refine ⟨rfl, p :: (pn ++ pf), node_perm_hi H4.out.1 H6.out.1, ?_, H6.out.2.2⟩
          have := H6.out.2.1
          rwa [List.append_assoc, List.append_assoc, List.singleton_append] at this
        | false =>
          go_wp2_with fail
          first | go_end0 | ((try simp only [Exit.inBlock, Exit.then]); refine bodyPost_ret (results_none rfl _ _ _) rfl ?_)
          refine ⟨rfl, p :: (pn ++ l.pts), node_perm_hi H4.out.1 (.refl _), ?_, H5.out.2.1⟩
          have := H5.out.2.2 cc (cz * cz) l.pts H3.out.2.2 hg (by rw [HCZ.out.1]; exact HFR.out.1 (by rw [← HCZ.out.1]; omega))
          rwa [List.append_assoc, List.append_assoc, List.singleton_append] at this
end Go.Proofs.YtmeooadgdagiiaaGreat.K

namespace Go.Proofs.YtmeooadgdagiiaaGreat
open Go.RowKit Lox
set_option linter.unusedVariables false
attribute [local go_sem] run_store_flt

/-- A list of points that came in. -/
structure RR where
  A : Option Addr
  c : Nat
  ps : List TP

def RR.v (x : RR) : Value := .slice x.A x.ps.length x.c
def RR.Ok (w : World) (x : RR) : Prop := Sl w x.A x.ps.length 1 (x.ps.map TP.v) ∧ (∀ p ∈ x.ps, p.Rd w) ∧ x.ps.length ≤ 9223372036854775807

theorem RR.Ok.mod {w w' : World} {x : RR} (h : x.Ok w) (hm : Mod (fun _ => False) w w') : x.Ok w' := ⟨h.1.mod hm, fun p hp => (h.2.1 p hp).mod hm, h.2.2⟩

/-- What a look at lengths tells. -/
def FitsTold (x : RR) (w : World) (e : Ending) (w' : World) : Prop :=
  ∃ b, e = .returned (.bool b) ∧ w = w' ∧ (b = true → x.ps.length ≤ 2147483647 ∧ ∀ p ∈ x.ps, p.xs.length ≤ 2147483647)

set_option maxHeartbeats 1000000 in
theorem fits4_any (x : RR) (w : World) (h : x.Ok w) : Calls Tryz.prog 4 #[x.v] w (FitsTold x w) := by
  obtain ⟨A, c, ps⟩ := x
  obtain ⟨m, hm⟩ : ∃ m, ps.length = m := ⟨_, rfl⟩
  have hml : m ≤ 9223372036854775807 := by rw [← hm]; exact h.2.2
  have HH := Lib.hid (And.intro h hm)
  have e : (RR.mk A c ps).v = .slice A m c := by rw [← hm]; rfl
  rw [e]
  clear h hm e
  go_enter Tryz.func4, Tryz.ntmps4
  by_cases hn : 2147483647 < m
  · go_wp2
    go_ret
    exact ⟨_, rfl, rfl, fun h => by cases h⟩
  · go_wp2
    go_loop [10] (fun i => ∃ k : Nat, k ≤ m ∧ i = .int .i64 k ∧ Hid (∀ p ∈ ps.take k, p.xs.length ≤ 2147483647)) (fun i => m - (intOf i).toNat)
    case atStart => exact ⟨0, Nat.zero_le _, rfl, by show ∀ p ∈ ps.take 0, _; simp⟩
    case round =>
      obtain ⟨k, hk, rfl, HR⟩ := hrel
      by_cases hlt : k < m
      · have hsl : Sl w A m 1 (ps.map TP.v) := by rw [← HH.out.2]; exact HH.out.1.1
        obtain ⟨b, o, v, e1, e2, c1⟩ := hsl.at1 hlt
        have hk2 : k < ps.length := by rw [HH.out.2]; exact hlt
        obtain ⟨p, ep⟩ : ∃ p, p = ps[k] := ⟨_, rfl⟩
        have e3 : (ps.map TP.v)[k]? = some p.v := by rw [ep]; simp [hk2]
        rw [e3] at e2
        cases e2
        have HTK : Hid (ps.take (k + 1) = ps.take k ++ [p]) := by show _ = _; rw [List.take_succ_eq_append_getElem hk2, ep]
        obtain ⟨q, hq⟩ : ∃ q, p.xs.length = q := ⟨_, rfl⟩
        have c2 : w.cell? ⟨b, o + k, none⟩ = some (.slice p.A q p.c) := by rw [← hq]; exact c1
        have hql : q ≤ 9223372036854775807 := by rw [← hq]; exact (HH.out.1.2.1 p (by rw [ep]; exact List.getElem_mem hk2)).2
        have HQ := Lib.hid hq
        subst e1
        clear c1 e3 ep hk2 hq hsl
        by_cases hbig : 2147483647 < q
        · go_wp2
          go_ret
          exact ⟨_, rfl, rfl, fun h => by cases h⟩
        · go_wp2
          go_round
          case rel =>
            refine ⟨k + 1, by omega, by go_num, ?_⟩
            show ∀ p ∈ ps.take (k + 1), _
            rw [HTK.out]
            intro z hz
            rcases List.mem_append.1 hz with h | h
            · exact HR.out z h
            · rw [List.mem_singleton.1 h, HQ.out]; omega
          case measure => simp [intOf]; omega
      · obtain rfl : k = m := by omega
        go_wp2
        go_ret
        refine ⟨_, rfl, rfl, fun _ => ⟨by rw [HH.out.2]; omega, ?_⟩⟩
        have := HR.out
        rw [List.take_of_length_le (by rw [HH.out.2]; exact Nat.le_refl _)] at this
        exact this

set_option maxHeartbeats 1000000 in
theorem same_yes (A B : Option Addr) (n c c' : Nat) (xs : List Nat) (w : World) (ha : Sl w A n 1 (flts xs)) (hb : Sl w B n 1 (flts xs)) (hn : n ≤ 9223372036854775807) (hx : ∀ x ∈ xs, Num x) :
    Calls Tryz.prog 38 #[.slice A n c, .slice B n c'] w fun e w' => e = .returned (.bool true) ∧ w = w' := by
  have hl : xs.length = n := by have := ha.1; simpa [flts] using this
  go_enter Tryz.func38, Tryz.ntmps38
  go_wp2
  go_loop [14] (fun i => ∃ k : Nat, k ≤ n ∧ i = .int .i64 k) (fun i => n - (intOf i).toNat)
  case atStart => exact ⟨0, Nat.zero_le _, rfl⟩
  case round =>
    obtain ⟨k, hk, rfl⟩ := hrel
    by_cases hlt : k < n
    · obtain ⟨b, o, v, e1, e2, c1⟩ := ha.at1 hlt
      obtain ⟨b', o', v', e3, e4, c2⟩ := hb.at1 hlt
      rw [e2] at e4
      cases e4
      have hk2 : k < xs.length := by omega
      rw [flts_getD hk2] at e2
      cases e2
      have hxx : FloatKind.f64.format.order (xs.getD k 0) (xs.getD k 0) = some .eq := (hx _ (by simp [hk2])).self
      obtain ⟨x, ex⟩ : ∃ x, x = xs.getD k 0 := ⟨_, rfl⟩
      rw [← ex] at c1 c2 hxx
      clear ex hk2 ha hb hx
      subst e1 e3
      go_wp2
      go_round
      case rel => exact ⟨k + 1, by omega, by go_num⟩
      case measure => simp [intOf]; omega
    · obtain rfl : k = n := by omega
      go_wp2
      go_ret
      exact ⟨rfl, rfl⟩

/-- How many points there are in some lists. -/
def many (ls : List RR) : Nat := (ls.map fun x => x.ps.length).sum

/-- What the laws' look at points tells. -/
def SomeTold (dims : Int) (ls : List RR) (pk : List Int) (w : World) (e : Ending) (w' : World) : Prop :=
  w = w' ∧ ∃ b, e = .returned (.bool b) ∧ (b = true → (∀ x ∈ ls, (∀ p ∈ x.ps, (p.xs.length : Int) = dims ∧ ∀ y ∈ p.xs, ∃ n, Wh y n) ∧ 0 < dims) ∧ dims ≤ 4 ∧ many ls ≤ 120 ∧ pk.length ≤ 80 ∧ ∀ k ∈ pk, 0 ≤ k)

theorem some_no {dims : Int} {ls : List RR} {pk : List Int} {w : World} : SomeTold dims ls pk w (.returned (.bool false)) w := ⟨rfl, false, rfl, fun h => by cases h⟩

set_option maxHeartbeats 4000000 in
theorem some_at (L P : Option Addr) (m cl nk cp : Nat) (dims : Int) (ls : List RR) (pk : List Int) (w : World) (hL : Sl w L m 1 (ls.map RR.v)) (hm : m ≤ 10) (hls : ∀ x ∈ ls, x.Ok w ∧ x.ps.length ≤ 2147483647) (hP : Sl w P nk 1 (ints pk)) (hnk : nk ≤ 2147483647) :
    Calls Tryz.prog 6 #[.int .i64 dims, .float .f64 4697254411347427328, .slice P nk cp, .slice L m cl] w (SomeTold dims ls pk w) := by
  have hll : ls.length = m := by have := hL.1; simpa using this
  have hpl : pk.length = nk := by have := hP.1; simpa [ints] using this
  have HH := Lib.hid (And.intro hL (And.intro hls (And.intro hP (And.intro hll hpl))))
  clear hL hls hP hll hpl
  go_enter Tryz.func6, Tryz.ntmps6
  go_wp2
  go_loop [9, 16] (fun n i => ∃ k s : Nat, k ≤ m ∧ s ≤ k * 2147483647 ∧ n = .int .i64 s ∧ i = .int .i64 k ∧ Hid (s = many (ls.take k) ∧ ∀ x ∈ ls.take k, (∀ p ∈ x.ps, (p.xs.length : Int) = dims ∧ ∀ y ∈ p.xs, ∃ n, Wh y n) ∧ 0 < dims)) (fun _ i => m - (intOf i).toNat)
  case atStart => exact ⟨0, 0, Nat.zero_le _, by omega, rfl, rfl, by simp [many], by simp⟩
  case round =>
    obtain ⟨k, s, hk, hs, rfl, rfl, HR⟩ := hrel
    by_cases hlt : k < m
    · obtain ⟨b, o, v, e1, e2, c1⟩ := HH.out.1.at1 hlt
      have hk2 : k < ls.length := by rw [HH.out.2.2.2.1]; exact hlt
      obtain ⟨x, ex⟩ : ∃ x, x = ls[k] := ⟨_, rfl⟩
      have e3 : (ls.map RR.v)[k]? = some x.v := by rw [ex]; simp [hk2]
      rw [e3] at e2
      cases e2
      have HTK : Hid (ls.take (k + 1) = ls.take k ++ [x]) := by show _ = _; rw [List.take_succ_eq_append_getElem hk2, ex]
      have hxo := HH.out.2.1 x (by rw [ex]; exact List.getElem_mem hk2)
      obtain ⟨A, c, ps⟩ := x
      obtain ⟨q, hq⟩ : ∃ q, ps.length = q := ⟨_, rfl⟩
      have c2 : w.cell? ⟨b, o + k, none⟩ = some (.slice A q c) := by rw [← hq]; exact c1
      have hql : q ≤ 2147483647 := by rw [← hq]; exact hxo.2
      have HX : Hid (Sl w A q 1 (ps.map TP.v) ∧ (∀ p ∈ ps, p.Rd w) ∧ ps.length = q) := ⟨by rw [← hq]; exact hxo.1.1, hxo.1.2.1, hq⟩
      subst e1
      clear c1 e3 ex hk2 hq hxo
      have hadd : IntKind.i64.wrap ((s : Int) + (q : Int)) = (s : Int) + (q : Int) := IntWalk.i64_in _ (by omega)
      go_wp2_with (go_at_call 12; refine (grid_any A q c ps dims _ HX.out.1 (by omega) HX.out.2.1).mono ?_; rintro _ _ ⟨rfl, g, rfl, hg⟩; have HG := Lib.hid hg; clear hg)
      all_goals first
        | (go_ret; exact some_no)
        | (have hgt : g = true := (by first | rfl | assumption | (have h : (!g) = false := (by assumption); simpa using h))
           go_round
           case rel =>
             refine ⟨k + 1, s + q, by omega, by omega, by go_num, by go_num, ?_, ?_⟩
             · rw [HTK.out, HR.out.1]
               simp [many, HX.out.2.2]
             · rw [HTK.out]
               intro z hz
               rcases List.mem_append.1 hz with h | h
               · exact HR.out.2 z h
               · rw [List.mem_singleton.1 h]; exact HG.out hgt
           case measure => simp [intOf]; omega)
    · obtain rfl : k = m := by omega
      have hr1 := HR.out.1
      have hr2 := HR.out.2
      rw [List.take_of_length_le (by rw [HH.out.2.2.2.1]; exact Nat.le_refl _)] at hr1 hr2
      have HR2 := Lib.hid (And.intro hr1 hr2)
      clear hr1 hr2 HR
      go_wp2
      go_loop [32] (fun i => ∃ j : Nat, j ≤ nk ∧ i = .int .i64 j ∧ Hid (∀ x ∈ pk.take j, 0 ≤ x)) (fun i => nk - (intOf i).toNat)
      case atStart => exact ⟨0, Nat.zero_le _, rfl, by show ∀ x ∈ pk.take 0, _; simp⟩
      case round =>
        obtain ⟨j, hj, rfl, HJ⟩ := hrel
        by_cases hlj : j < nk
        · obtain ⟨b, o, v, e1, e2, c1⟩ := HH.out.2.2.1.at1 hlj
          have hj2 : j < pk.length := by rw [HH.out.2.2.2.2]; exact hlj
          obtain ⟨x, ex⟩ : ∃ x, x = pk[j] := ⟨_, rfl⟩
          rw [ints_at (x := x) (by rw [ex]; exact List.getElem?_eq_getElem hj2)] at e2
          cases e2
          have HTK : Hid (pk.take (j + 1) = pk.take j ++ [x]) := by show _ = _; rw [List.take_succ_eq_append_getElem hj2, ex]
          subst e1
          clear ex hj2
          by_cases hx0 : x < 0
          · go_wp2
            go_ret
            exact some_no
          · go_wp2
            go_round
            case rel =>
              refine ⟨j + 1, by omega, by go_num, ?_⟩
              show ∀ x ∈ pk.take (j + 1), _
              rw [HTK.out]
              intro z hz
              rcases List.mem_append.1 hz with h | h
              · exact HJ.out z h
              · rw [List.mem_singleton.1 h]; omega
            case measure => simp [intOf]; omega
        · obtain rfl : j = nk := by omega
          have hj1 := HJ.out
          rw [List.take_of_length_le (by rw [HH.out.2.2.2.2]; exact Nat.le_refl _)] at hj1
          have HJ1 := Lib.hid hj1
          clear hj1 HJ
          by_cases h4 : dims ≤ 4
          · by_cases h5 : (s : Int) ≤ 120
            · by_cases h6 : (j : Int) ≤ 80
              · have d1 : decide (dims ≤ 4) = true := decide_eq_true h4
                have d2 : decide ((s : Int) ≤ 120) = true := decide_eq_true h5
                have d3 : decide ((j : Int) ≤ 80) = true := decide_eq_true h6
                go_wp2
                go_ret
                exact ⟨rfl, _, rfl, fun _ => ⟨HR2.out.2, h4, by rw [← HR2.out.1]; omega, by rw [HH.out.2.2.2.2]; omega, HJ1.out⟩⟩
              · have d1 : decide (dims ≤ 4) = true := decide_eq_true h4
                have d2 : decide ((s : Int) ≤ 120) = true := decide_eq_true h5
                have d3 : decide ((j : Int) ≤ 80) = false := decide_eq_false h6
                go_wp2
                go_ret
                exact some_no
            · have d1 : decide (dims ≤ 4) = true := decide_eq_true h4
              have d2 : decide ((s : Int) ≤ 120) = false := decide_eq_false h5
              go_wp2
              go_ret
              exact some_no
          · have d1 : decide (dims ≤ 4) = false := decide_eq_false h4
            go_wp2
            go_ret
            exact some_no
end Go.Proofs.YtmeooadgdagiiaaGreat

namespace Lox
open Go Go.RowKit
set_option linter.unusedVariables false

/-- How many of a key have been taken. -/
def cu (κ : List Int) : List Bool → List (List Int) → Nat
  | true :: U, k :: ks => (if k = κ then 1 else 0) + cu κ U ks
  | false :: U, _ :: ks => cu κ U ks
  | [], _ => 0
  | true :: _, [] => 0
  | false :: _, [] => 0

theorem cu_set (κ : List Int) : ∀ (U : List Bool) (ks : List (List Int)) (j : Nat) (k : List Int), U[j]? = some false → ks[j]? = some k → cu κ (U.set j true) ks = cu κ U ks + (if k = κ then 1 else 0) := by
  intro U
  induction U with
  | nil => intro ks j k h; simp at h
  | cons b U ih =>
    intro ks j k h hk
    cases ks with
    | nil => simp at hk
    | cons a ks =>
      cases j with
      | zero =>
        simp only [List.getElem?_cons_zero, Option.some.injEq] at h hk
        subst h hk
        simp only [List.set_cons_zero, cu]
        omega
      | succ j =>
        simp only [List.getElem?_cons_succ] at h hk
        have := ih ks j k h hk
        cases b <;> simp only [List.set_cons_succ, cu, this]
        omega

theorem cu_all (κ : List Int) : ∀ (U : List Bool) (ks : List (List Int)), U.length = ks.length → (∀ j : Nat, ks[j]? = some κ → U[j]? = some true) → cu κ U ks = ks.count κ := by
  intro U
  induction U with
  | nil => intro ks hl _; have : ks = [] := List.length_eq_zero_iff.1 hl.symm; rw [this]; rfl
  | cons b U ih =>
    intro ks hl h
    cases ks with
    | nil => cases hl
    | cons a ks =>
      have h2 := ih ks (by simpa using hl) fun j hj => by have := h (j + 1) (by simpa using hj); simpa using this
      have h0 := h 0
      simp only [List.getElem?_cons_zero, Option.some.injEq] at h0
      rw [List.count_cons]
      cases b with
      | true =>
        simp only [cu, h2]
        by_cases ha : a = κ
        · rw [if_pos ha, if_pos (by rw [ha]; exact beq_self_eq_true _)]; omega
        · rw [if_neg ha, if_neg (by simpa using ha)]; omega
      | false =>
        have ha : ¬ a = κ := fun e => by cases h0 e
        simp only [cu, h2]
        rw [if_neg (by simpa using ha)]
        omega

theorem cu_zero (κ : List Int) : ∀ (m : Nat) (ks : List (List Int)), cu κ (List.replicate m false) ks = 0 := by
  intro m
  induction m with
  | zero => intro ks; rfl
  | succ m ih => intro ks; rw [List.replicate_succ]; cases ks <;> simp [cu, ih]

theorem cu_left {κ : List Int} {U : List Bool} {ks gs : List (List Int)} {k : Nat} (hl : U.length = ks.length) (hU : cu κ U ks = (gs.take k).count κ) (hk : gs[k]? = some κ) (hc : gs.count κ ≤ ks.count κ) (h : ∀ j : Nat, j < ks.length → U[j]? = some true ∨ ks[j]? ≠ some κ) : False := by
  have h1 := cu_all κ U ks hl fun j hj => by
    rcases h j (List.getElem?_eq_some_iff.1 hj).1 with h | h
    · exact h
    · exact absurd hj h
  have h2 : (gs.take (k + 1)).count κ ≤ gs.count κ := (List.take_sublist _ _).count_le κ
  rw [List.take_add_one, hk, List.count_append] at h2
  simp only [Option.toList_some, List.count_singleton_self] at h2
  omega
end Lox
namespace Go.Proofs.YtmeooadgdagiiaaGreat
open Go.RowKit Lox
set_option linter.unusedVariables false
attribute [local go_sem] run_store_flt run_store_fn

/-- A point's numbers. -/
noncomputable def TP.key (p : TP) : List Int := p.xs.map zi

set_option maxHeartbeats 1000000 in
theorem same_at (A B : Option Addr) (n c c' : Nat) (xs ys : List Nat) (b : Bool) (w : World) (ha : Sl w A n 1 (flts xs)) (hb : Sl w B n 1 (flts ys)) (hn : n ≤ 9223372036854775807) (hx : ∀ x ∈ xs, ∃ n, Wh x n) (hy : ∀ x ∈ ys, ∃ n, Wh x n) (hbb : b = decide (xs.map zi = ys.map zi)) :
    Calls Tryz.prog 38 #[.slice A n c, .slice B n c'] w fun e w' => e = .returned (.bool b) ∧ w = w' := by
  have hl : xs.length = n := by have := ha.1; simpa [flts] using this
  have hl2 : ys.length = n := by have := hb.1; simpa [flts] using this
  have HH := Lib.hid (And.intro ha (And.intro hb (And.intro hx (And.intro hy (And.intro hl (And.intro hl2 hbb))))))
  clear ha hb hx hy hl hl2 hbb
  go_enter Tryz.func38, Tryz.ntmps38
  go_wp2
  go_loop [14] (fun i => ∃ k : Nat, k ≤ n ∧ i = .int .i64 k ∧ Hid (∀ j, j < k → zi (xs.getD j 0) = zi (ys.getD j 0))) (fun i => n - (intOf i).toNat)
  case atStart => exact ⟨0, Nat.zero_le _, rfl, fun j hj => by omega⟩
  case round =>
    obtain ⟨k, hk, rfl, HR⟩ := hrel
    by_cases hlt : k < n
    · obtain ⟨b1, o1, v1, e1, f1, c1⟩ := HH.out.1.at1 hlt
      obtain ⟨b2, o2, v2, e2, f2, c2⟩ := HH.out.2.1.at1 hlt
      have k1 : k < xs.length := by rw [HH.out.2.2.2.2.1]; exact hlt
      have k2 : k < ys.length := by rw [HH.out.2.2.2.2.2.1]; exact hlt
      rw [flts_getD k1] at f1
      rw [flts_getD k2] at f2
      cases f1
      cases f2
      have gx : ∃ n, Wh (xs.getD k 0) n := HH.out.2.2.1 _ (mem_getD k1)
      have gy : ∃ n, Wh (ys.getD k 0) n := HH.out.2.2.2.1 _ (mem_getD k2)
      have heq := (zi_wh gx).1.eq (zi_wh gy).1
      have HK := Lib.hid (And.intro k1 k2)
      subst e1 e2
      by_cases hz : zi (xs.getD k 0) = zi (ys.getD k 0)
      · rw [decide_eq_true hz] at heq
        have HZ := Lib.hid hz
        clear hz gx gy k1 k2
        generalize xs.getD k 0 = x at c1 heq
        generalize ys.getD k 0 = y at c2 heq
        have hne : (FloatKind.f64.format.order x y != some .eq) = false := by rw [bne, heq]; rfl
        go_wp2
        go_round
        case rel =>
          refine ⟨k + 1, by omega, by go_num, fun j hj => ?_⟩
          rcases Nat.lt_or_ge j k with h | h
          · exact HR.out j h
          · obtain rfl : j = k := by omega
            exact HZ.out
        case measure => simp [intOf]; omega
      · rw [decide_eq_false hz] at heq
        have HZ : Hid (b = false) := by
          show b = false
          rw [HH.out.2.2.2.2.2.2]
          refine decide_eq_false fun e => hz ?_
          have h1 := congrArg (fun l => l[k]?) e
          simp only [List.getElem?_map, List.getElem?_eq_getElem HK.out.1, List.getElem?_eq_getElem HK.out.2, Option.map_some, Option.some.injEq] at h1
          have a1 : xs.getD k 0 = xs[k]'HK.out.1 := by simp [HK.out.1]
          have a2 : ys.getD k 0 = ys[k]'HK.out.2 := by simp [HK.out.2]
          rw [a1, a2]
          exact h1
        clear hz gx gy k1 k2
        generalize xs.getD k 0 = x at c1 heq
        generalize ys.getD k 0 = y at c2 heq
        have hne : (FloatKind.f64.format.order x y != some .eq) = true := by rw [bne, heq]; rfl
        go_wp2
        go_ret
        exact ⟨by rw [HZ.out]; rfl, rfl⟩
    · obtain rfl : k = n := by omega
      have HZ : Hid (b = true) := by
        show b = true
        rw [HH.out.2.2.2.2.2.2]
        refine decide_eq_true (List.ext_getElem (by simp [HH.out.2.2.2.2.1, HH.out.2.2.2.2.2.1]) fun j h1 h2 => ?_)
        rw [List.length_map] at h1 h2
        have := HR.out j (by have := HH.out.2.2.2.2.1; omega)
        simpa [h1, h2] using this
      go_wp2
      go_ret
      exact ⟨by rw [HZ.out]; rfl, rfl⟩

theorem info_bool : (Tryz.prog.info? 4).map (fun i => (i.zero, i.size, i.bytes)) = some (some (.bool false), 1, 1) := by kernel_rfl

theorem blk_of_full {w : World} {B e n g : Nat} {xs : List Value} (h : w.ownsRow B e 1 (.slice (some ⟨g, 0, none⟩) n n) n xs) : Blk w g e xs := by
  obtain ⟨h1, h2⟩ := h
  rcases h2 with ⟨h2, _⟩ | ⟨g', cap, cur, h2, hb, hg, hn, hm, hs, ht⟩
  · cases h2
  · simp only [Value.slice.injEq, Option.some.injEq, Addr.mk.injEq] at h2
    obtain ⟨⟨rfl, _⟩, _, rfl⟩ := h2
    unfold Blk
    rw [hg]
    have : cur.toList = xs := by rw [← ht, List.take_of_length_le (by simp; omega)]
    rw [← this]

theorem made_falses (n : Nat) : (madeCells (Value.bool false).cells (n * 1)).toList = (List.replicate n false).map Value.bool := by
  apply List.ext_getElem?
  intro i
  simp [madeCells, Value.cells, List.getElem?_replicate]
  by_cases hi : i < n <;> simp [hi]
  simp [Nat.mod_one]

/-- The outer loop's state: which have been taken. -/
structure AM (H m : Nat) (gs ps : List TP) (k : Nat) (U : List Bool) (w w' : World) : Prop where
  blk : Blk w' H 4 (U.map Value.bool)
  len : U.length = m
  cnt : ∀ κ, cu κ U (ps.map TP.key) = ((gs.map TP.key).take k).count κ
  mod : Mod (fun _ => False) w w'

theorem AM.step {H m k j : Nat} {gs ps : List TP} {U : List Bool} {w w' : World} {p q : TP} (h : AM H m gs ps k U w w') (hH : w.heap.size ≤ H) (hp : gs[k]? = some p) (hq : ps[j]? = some q) (hU : U[j]? = some false) (he : p.key = q.key) : AM H m gs ps (k + 1) (U.set j true) w (w'.setCell ⟨H, j, none⟩ (.bool true)) := by
  refine ⟨?_, by rw [List.length_set]; exact h.len, fun κ => ?_, h.mod.set (p := ⟨H, j, none⟩) (.inr hH) _⟩
  · have := h.blk.set j (.bool true)
    rw [List.map_set]
    exact this
  · have hk : (gs.map TP.key)[k]? = some p.key := by rw [List.getElem?_map, hp]; rfl
    rw [cu_set κ U _ j q.key hU (by rw [List.getElem?_map, hq]; rfl), h.cnt κ, List.take_add_one, hk, List.count_append]
    simp only [Option.toList_some, List.count_singleton]
    rw [he]
    by_cases e : q.key = κ
    · rw [if_pos e, if_pos (by rw [e]; exact beq_self_eq_true _)]
    · rw [if_neg e, if_neg (by simpa using e)]

set_option maxRecDepth 100000 in
set_option maxHeartbeats 8000000 in
theorem among_at (A I : Option Addr) (n c m ci dims : Nat) (gs ps : List TP) (w : World) (hg : PRows w A n gs dims) (hp : PRows w I m ps dims) (gg : ∀ p ∈ gs, p.Gr) (gp : ∀ p ∈ ps, p.Gr) (hn : n ≤ 2147483647 ∧ m ≤ 2147483647) (hd : dims ≤ 9223372036854775807) (hc : ∀ κ, (gs.map TP.key).count κ ≤ (ps.map TP.key).count κ) :
    Calls Tryz.prog 27 #[.slice A n c, .slice I m ci] w fun e w' => e = .returned (.bool true) ∧ Mod (fun _ => False) w w' := by
  obtain ⟨i0, hi0, hz0, hz1, hz2⟩ := info_parts info_bool
  have HI := Lib.hid (And.intro hi0 (And.intro hz0 (And.intro hz1 hz2)))
  clear hi0 hz0 hz1 hz2
  have hgl := hg.len
  have hpl := hp.len
  have HH := Lib.hid (And.intro hg (And.intro hp (And.intro gg (And.intro gp (And.intro hc (And.intro hgl hpl))))))
  clear hg hp gg gp hc hgl hpl
  go_enter Tryz.func27, Tryz.ntmps27
  go_wp2_with (at_make; refine wpList_make_full _ rfl _ _ 106 rfl 0 4 i0 (.bool false) 1 Tryz.underlying106 HI.out.1 HI.out.2.1 HI.out.2.2.1 _ _ _ _ m rfl rfl rfl rfl (by rw [HI.out.2.2.2]; omega) (by unfold maxLen; omega) (Nat.zero_le _) ?_; intro w3 hown3 hgrow3)
  have hseen : Blk w3 w.heap.size 4 ((List.replicate m false).map Value.bool) := by
    rw [← made_falses]; exact blk_of_full hown3
  have hm3 : Mod (fun _ => False) w w3 := mod_of_grown hgrow3
  have HA0 : Hid (AM w.heap.size m gs ps 0 (List.replicate m false) w w3) := ⟨hseen, by simp, fun κ => by rw [cu_zero]; rfl, hm3⟩
  obtain ⟨H, hH⟩ : ∃ H, H = w.heap.size := ⟨_, rfl⟩
  rw [← hH] at HA0
  rw [← hH]
  have HHH := Lib.hid hH
  clear hown3 hgrow3 hseen hm3 hH
  go_loopw [16] (fun i wr => ∃ (k : Nat) (U : List Bool), k ≤ n ∧ i = .int .i64 k ∧ Hid (AM H m gs ps k U w wr)) (fun i _ => n - (intOf i).toNat)
  case atStart => exact ⟨0, _, Nat.zero_le _, rfl, HA0.out⟩
  case round =>
    obtain ⟨k, U, hk, rfl, HR⟩ := hrel
    by_cases hlt : k < n
    · have hgr := HH.out.1.mod HR.out.mod
      obtain ⟨b, o, v0, e1, e2, c1⟩ := hgr.1.at1 hlt
      have hk2 : k < gs.length := by rw [HH.out.2.2.2.2.2.1]; exact hlt
      obtain ⟨p, ep⟩ : ∃ p, p = gs[k] := ⟨_, rfl⟩
      have hpk : gs[k]? = some p := by rw [ep]; exact List.getElem?_eq_getElem hk2
      have hpm : p ∈ gs := List.mem_of_getElem? hpk
      have e3 : (gs.map TP.v)[k]? = some p.v := by rw [List.getElem?_map, hpk]; rfl
      rw [e3] at e2
      cases e2
      obtain ⟨hrd, hpl⟩ := hgr.2 p hpm
      have c2 : wr.cell? ⟨b, o + k, none⟩ = some (.slice p.A dims p.c) := by rw [c1, ← hpl]; rfl
      have hsp : Sl wr p.A dims 1 (flts p.xs) := by rw [← hpl]; exact hrd.1
      have HP := Lib.hid (And.intro hpk (And.intro hsp (TP.gr_iff.1 (HH.out.2.2.1 p hpm))))
      subst e1
      clear hgr hk2 ep hpk hpm e3 c1 hrd hpl hsp
      have i0' : (0 : Int) ≤ k := by omega
      have i1' : (k : Int) < n := by omega
      go_wp2
      go_loop [22] (fun i => ∃ j : Nat, j ≤ m ∧ i = .int .i64 j ∧ Hid (∀ j' : Nat, j' < j → U[j']? = some true ∨ (ps.map TP.key)[j']? ≠ some p.key)) (fun i => m - (intOf i).toNat)
      case atStart => exact ⟨0, Nat.zero_le _, rfl, fun j' hj => by omega⟩
      case round =>
        obtain ⟨j, hj, rfl, HJ⟩ := hrel
        by_cases hlj : j < m
        · have hpr := HH.out.2.1.mod HR.out.mod
          obtain ⟨b2, o2, v2, f1, f2, d1⟩ := hpr.1.at1 hlj
          have hj2 : j < ps.length := by rw [HH.out.2.2.2.2.2.2]; exact hlj
          obtain ⟨q, eq⟩ : ∃ q, q = ps[j] := ⟨_, rfl⟩
          have hqj : ps[j]? = some q := by rw [eq]; exact List.getElem?_eq_getElem hj2
          have hqm : q ∈ ps := List.mem_of_getElem? hqj
          have f3 : (ps.map TP.v)[j]? = some q.v := by rw [List.getElem?_map, hqj]; rfl
          rw [f3] at f2
          cases f2
          obtain ⟨hrd, hql⟩ := hpr.2 q hqm
          have d2 : wr.cell? ⟨b2, o2 + j, none⟩ = some (.slice q.A dims q.c) := by rw [d1, ← hql]; rfl
          have hsq : Sl wr q.A dims 1 (flts q.xs) := by rw [← hql]; exact hrd.1
          obtain ⟨u, hu⟩ : ∃ u, U[j]? = some u := ⟨_, List.getElem?_eq_getElem (by rw [HR.out.len]; exact hlj)⟩
          have x0 : wr.cell? ⟨H, j, none⟩ = some (.bool u) := HR.out.blk.at (i := j) (by rw [List.getElem?_map, hu]; rfl)
          have z0 := HR.out.blk.frozen j
          have HQ := Lib.hid (And.intro hqj (And.intro hsq (And.intro (TP.gr_iff.1 (HH.out.2.2.2.1 q hqm)) hu)))
          have hkq : Hid ((ps.map TP.key)[j]? = some q.key) := by show _ = _; rw [List.getElem?_map, hqj]; rfl
          subst f1
          clear hpr hj2 eq hqj hqm f3 d1 hrd hql hsq hu
          have j0' : (0 : Int) ≤ j := by omega
          have j1' : (j : Int) < m := by omega
          cases u with
          | true =>
            go_wp2
            go_round
            case rel =>
              refine ⟨j + 1, by omega, by go_num, fun j' hj' => ?_⟩
              rcases Nat.lt_or_ge j' j with h | h
              · exact HJ.out j' h
              · obtain rfl : j' = j := by omega
                exact .inl HQ.out.2.2.2
            case measure => simp [intOf]; omega
          | false =>
            by_cases hkk : p.key = q.key
            · have HK := Lib.hid hkk
              clear hkk
              go_wp2_with (go_at_call 38; refine (same_at p.A q.A dims p.c q.c p.xs q.xs true _ HP.out.2.1 HQ.out.2.1 hd HP.out.2.2 HQ.out.2.2.1 (decide_eq_true HK.out).symm).mono ?_; rintro _ _ ⟨rfl, rfl⟩)
              go_roundw
              case rel => exact ⟨k + 1, U.set j true, by omega, by go_num, HR.out.step (by rw [HHH.out]; exact Nat.le_refl _) HP.out.1 HQ.out.1 HQ.out.2.2.2 HK.out⟩
              case measure => simp [intOf]; omega
            · have HK := Lib.hid hkk
              clear hkk
              go_wp2_with (go_at_call 38; refine (same_at p.A q.A dims p.c q.c p.xs q.xs false _ HP.out.2.1 HQ.out.2.1 hd HP.out.2.2 HQ.out.2.2.1 (decide_eq_false HK.out).symm).mono ?_; rintro _ _ ⟨rfl, rfl⟩)
              go_round
              case rel =>
                refine ⟨j + 1, by omega, by go_num, fun j' hj' => ?_⟩
                rcases Nat.lt_or_ge j' j with h | h
                · exact HJ.out j' h
                · obtain rfl : j' = j := by omega
                  refine .inr fun e => ?_
                  rw [hkq.out] at e
                  injection e with e
                  exact HK.out e.symm
              case measure => simp [intOf]; omega
        · obtain rfl : j = m := by omega
          exact (cu_left (U := U) (ks := ps.map TP.key) (gs := gs.map TP.key) (k := k) (κ := p.key) (by rw [List.length_map, HR.out.len, HH.out.2.2.2.2.2.2]) (HR.out.cnt _) (by rw [List.getElem?_map, HP.out.1]; rfl) (HH.out.2.2.2.2.1 _) (fun j' hj' => HJ.out j' (by rw [List.length_map, HH.out.2.2.2.2.2.2] at hj'; exact hj'))).elim
    · obtain rfl : k = n := by omega
      go_wp2
      go_ret
      exact ⟨rfl, HR.out.mod⟩
end Go.Proofs.YtmeooadgdagiiaaGreat

namespace Lox
open Go Go.RowKit
set_option linter.unusedVariables false

theorem run_append_none {P : Program} (w : World) (t ty e : TypeId) (i : TypeInfo) (base size n c : Nat) (v : Value) (xs : List Value) (ht : P.underlying t = some (.slice e)) (hi : P.info? e = some i) (hown : w.ownsRow base e size v n xs) :
    (Builtin.append_ #[t, t] ty #[v, .slice none 0 c]).run P w = .ok v w := by
  rcases hown.2 with ⟨rfl, h0⟩ | ⟨g, cap, cur, rfl, hB, hg, hc, hcm, hsz, htk⟩
  · simp [Builtin.append_, run_underlying ht, Go.sizeOf, typeInfo, hi, Builtin.lenOf, Builtin.firstCells]
  · have hst : (storeCells ((⟨g, 0, none⟩ : Addr).add (n * i.size)) []).run P w = .ok () w := rfl
    simp [Builtin.append_, run_underlying ht, Go.sizeOf, typeInfo, hi, Builtin.lenOf, Builtin.firstCells, hc, hst]

theorem wpList_append_opt {P : Program} (w : World) {ops : Array Oper} {rest : List Oper} {o : Oper} {a : Act} {Q : Exit → Act → World → Prop} (hgd : o.guard = none) (s x : Operand) (t : TypeId)
    (ho : o.op = .call { callee := .builtin .append, args := #[s, x], argTypes := #[t, t] })
    (base : Nat) (e : TypeId) (i : TypeInfo) (z : Value) (bytes : Nat) (ht : P.underlying t = some (.slice e)) (hi : P.info? e = some i) (hz : i.zero = some z)
    (hsize : i.size = 1) (hby : i.bytes = bytes) (hzs : z.cells.size = 1)
    (v : Value) (n : Nat) (xs : List Value) (hs : a.eval s = v) (hown : w.ownsRow base e 1 v n xs)
    (X : Option Addr) (m c : Nat) (news : List Value) (hx : a.eval x = .slice X m c) (hnews : Sl w X m 1 news) (h1 : ∀ u ∈ news, u.oneCell' = true)
    (h63 : n + m ≤ maxLen) (hbytes : (n + m) * bytes ≤ 140737488355328) (hbase : base ≤ w.heap.size)
    (h : ∀ v' w', w'.ownsRow base e 1 v' (n + m) (xs ++ news) → w.grownBy w' v.ownBlock → wpList P ops Q rest (a.put o.dst v') w') : wpList P ops Q (o :: rest) a w := by
  cases X with
  | none =>
    obtain rfl : m = 0 := by
      rcases Nat.eq_zero_or_pos m with h0 | h0
      · exact h0
      · obtain ⟨_, _, h, _⟩ := hnews.2 h0
        cases h
    obtain rfl : news = [] := List.length_eq_zero_iff.1 (by have := hnews.1; omega)
    refine wpList_plain hgd fun K hK => ?_
    have hr := run_append_none (P := P) w t o.type e i base 1 n c v xs ht hi hown
    unfold Oper.wp execOp
    simp only [ho, resolve, invoke, builtin, Sem.run_bind, Sem.run_pure, Result.andThen_ok, List.map_toArray, List.map_cons, List.map_nil, hs, hx, hr]
    exact hK _ _ (h v w (by rw [Nat.add_zero, List.append_nil]; exact hown) ⟨rfl, rfl, rfl, Nat.le_refl _, fun _ _ _ => rfl⟩)
  | some ad =>
    exact wpList_append_own w hgd s x t ho base e i z 1 bytes ht hi hz hsize hby hzs (by decide) v n xs hs hown ad m c news hx hnews.1 (fun j u hu => by
      obtain ⟨b, o, e, hc⟩ := hnews.2 (by have := hnews.1; have := (List.getElem?_eq_some_iff.1 hu).1; omega)
      cases e
      rw [addr_lit]
      exact hc j u hu) h1 h63 hbytes hbase fun v' w' h2 h3 _ => h v' w' h2 h3
end Lox

namespace Go.Proofs.YtmeooadgdagiiaaGreat
open Go.RowKit Lox
set_option linter.unusedVariables false
attribute [local go_sem] run_store_flt run_store_fn

theorem info_floats : (Tryz.prog.info? 24).map (fun i => (i.zero, i.size, i.bytes)) = some (some (.slice none 0 0), 1, 24) := by kernel_rfl

theorem oneCell_rows {ps : List TP} : ∀ u ∈ ps.map TP.v, u.oneCell' = true := by
  intro u hu
  obtain ⟨p, _, rfl⟩ := List.mem_map.1 hu
  rfl

/-- What tAll tells. -/
def AllTold (ps qs : List TP) (n : Nat) (w : World) (e : Ending) (w' : World) : Prop :=
  ∃ (A : Option Addr) (c : Nat), e = .returned (.slice A n c) ∧ Sl w' A n 1 ((ps ++ qs).map TP.v) ∧ Mod (fun _ => False) w w' ∧ n ≤ 9223372036854775807

theorem own_empty (w : World) (T : TypeId) : (w.alloc (.cells #[] T)).ownsRow w.heap.size T 1 (.slice (some ⟨w.heap.size, 0, none⟩) 0 0) 0 [] :=
  ⟨rfl, .inr ⟨w.heap.size, 0, #[], rfl, Nat.le_refl _, (Blk.new' w #[] T), Nat.le_refl _, by decide, rfl, rfl⟩⟩

theorem own_told {w w' : World} {ps qs : List TP} {v : Value} {n : Nat} (h : w'.ownsRow w.heap.size 24 1 v n ((ps ++ qs).map TP.v)) (hm : Mod (fun _ => False) w w') : AllTold ps qs n w (.returned v) w' := by
  rcases h.2 with ⟨rfl, h0⟩ | ⟨g, cap, cur, rfl, hB, hg, hc, hcm, hsz, ht⟩
  · subst h0
    exact ⟨none, 0, rfl, ⟨by have := h.1; simpa using this, fun h => by omega⟩, hm, by omega⟩
  · refine ⟨_, _, rfl, ⟨h.1, fun _ => ⟨g, 0, rfl, fun j u hu => ?_⟩⟩, hm, by unfold maxLen at hcm; omega⟩
    have := h.cells (g := g) rfl j u hu
    rw [addr_lit] at this
    exact this

theorem all_m1 {w w1 : World} {o : Obj} {n c : Nat} (h : (w.alloc o).grownBy w1 (Value.slice (some ⟨w.heap.size, 0, none⟩) n c).ownBlock) : Mod (fun _ => False) w w1 :=
  ((Mod.refl _ _).alloc _).grown h (fun k e hk => by
    have e : some w.heap.size = some k := e
    injection e with e
    omega)

set_option maxHeartbeats 2000000 in
theorem all_at (x y : RR) (n m : Nat) (w : World) (hx : x.Ok w) (hy : y.Ok w) (hn : x.ps.length = n) (hm : y.ps.length = m) (hb : n ≤ 2147483647 ∧ m ≤ 2147483647) :
    Calls Tryz.prog 5 #[.slice x.A n x.c, .slice y.A m y.c] w (AllTold x.ps y.ps (n + m) w) := by
  obtain ⟨i0, hi0, hz0, hz1, hz2⟩ := info_parts info_floats
  have HI := Lib.hid (And.intro hi0 (And.intro hz0 (And.intro hz1 hz2)))
  clear hi0 hz0 hz1 hz2
  have h1 := hx.1
  have h2 := hy.1
  rw [hn] at h1
  rw [hm] at h2
  have HH := Lib.hid (And.intro h1 h2)
  clear hx hy h1 h2 hn hm
  obtain ⟨O, c, ps⟩ := x
  obtain ⟨I, ci, qs⟩ := y
  have tok1 : True := trivial
  go_enter Tryz.func5, Tryz.ntmps5
  go_wp2_with (at_builtin; first
    | (have _t := tok1; clear _t tok1; refine wpList_append_opt _ rfl _ _ _ rfl w.heap.size 24 i0 (.slice none 0 0) 24 Tryz.underlying22 HI.out.1 HI.out.2.1 HI.out.2.2.1 HI.out.2.2.2 rfl (.slice (some ⟨w.heap.size, 0, none⟩) 0 0) 0 [] rfl (own_empty w _) O n c (ps.map TP.v) rfl (HH.out.1.alloc _) oneCell_rows (by unfold maxLen; omega) (by omega) (by rw [World.size_alloc]; omega) ?_; intro v1 w1 hown1 hgrow1; have hm1 : Mod (fun _ => False) w w1 := all_m1 hgrow1; have H1 := Lib.hid (And.intro hown1 (And.intro hgrow1 hm1)); clear hown1 hgrow1 hm1)
    | (refine wpList_append_opt _ rfl _ _ _ rfl w.heap.size 24 i0 (.slice none 0 0) 24 Tryz.underlying22 HI.out.1 HI.out.2.1 HI.out.2.2.1 HI.out.2.2.2 rfl v1 (0 + n) ([] ++ ps.map TP.v) rfl H1.out.1 I m ci (qs.map TP.v) rfl (HH.out.2.mod H1.out.2.2) oneCell_rows (by unfold maxLen; omega) (by omega) (by have := H1.out.2.2.size; omega) ?_; intro v2 w2 hown2 hgrow2; have H2 := Lib.hid (And.intro hown2 hgrow2); clear hown2 hgrow2))
  go_ret
  have hm2 : Mod (fun _ => False) w w2 := H1.out.2.2.grown H2.out.2 (fun k e hk => by have := (own_block H1.out.1 e).1; omega)
  have h := H2.out.1
  rw [List.nil_append, Nat.zero_add, ← List.map_append] at h
  exact own_told h hm2
end Go.Proofs.YtmeooadgdagiiaaGreat
