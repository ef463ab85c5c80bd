/- Steps of a proof, one behind another: What Put's last step hangs on a node; in plain Lean. The walk of SameTree over two k-d trees that are the same. The walk of Put. Conditions: as each theorem says. -/
import Derived.Test.YtmeooadgdagiiaaMl1
import Derived.Deep.DeepCutAuto
import Derived.BigRegion
import Derived.BigQuiet
import Derived.Deep.RegionHeld3
import Derived.Deep.DrawnRows

namespace Go.Proofs.Ytmeooadgdagiiaa.W
open Go.RowKit Lox
set_option linter.unusedVariables false

/-- The new node, as plain data. -/
def onePR (q : TP) (b : Bool) (pl : Nat) : PR := ⟨q.xs, pl, -1, -1, if b = true then q.xs else [], if b = true then q.xs else []⟩

theorem ok_num {w : World} {dims d : Nat} {p : TP} (h : p.Ok w dims) (hg : ∀ x ∈ p.xs, ∃ n, Wh x n) (hd : d < dims) : ∃ b o X, p.A = some ⟨b, o, none⟩ ∧ w.cell? ⟨b, o + d, none⟩ = some (.float .f64 X) ∧ X = p.xs.getD d 0 ∧ ∃ n, Wh X n := by
  obtain ⟨b, o, v, e1, e2, e3⟩ := h.2.at1 (k := d) (by rw [h.1]; exact hd)
  have hl : d < p.xs.length := by rw [h.1]; exact hd
  rw [flts_getD hl] at e2
  cases e2
  refine ⟨b, o, _, e1, e3, rfl, hg _ ?_⟩
  have : p.xs.getD d 0 = p.xs[d] := by simp [List.getD, hl]
  rw [this]
  exact List.getElem_mem hl

theorem leX_look {d X Y : Nat} {p q : List Nat} (hx : X = p.getD d 0) (hy : Y = q.getD d 0) (ha : ∃ n, Wh X n) (hb : ∃ n, Wh Y n) : (FloatKind.f64.format.order X Y == some .lt || FloatKind.f64.format.order X Y == some .eq) = leX d p q := by
  obtain ⟨m, ha⟩ := ha
  obtain ⟨n, hb⟩ := hb
  rw [leX_int (by rw [← hx]; exact ha) (by rw [← hy]; exact hb), ha.1.lt hb.1, ha.1.eq hb.1]
  by_cases h1 : m < n
  · have h2 : m ≤ n := by omega
    simp [h1, h2]
  · by_cases h2 : m = n
    · simp [h2]
    · have h3 : ¬ m ≤ n := by omega
      simp [h1, h2, h3]

theorem one_box {dims : Nat} {b : Bool} {q : TP} {pl : Nat} (hl : q.xs.length = dims) (hq : ∀ x ∈ q.xs, ∃ n, Wh x n) : BxOk dims b [q.xs] (onePR q b pl).mn (onePR q b pl).mx := by
  unfold BxOk
  cases b with
  | false => exact ⟨rfl, rfl⟩
  | true =>
    show BoxOf dims [q.xs] q.xs q.xs
    exact ⟨hl, hl, hq, hq, fun d _ p hp => by rw [List.mem_singleton.1 hp]; exact ⟨Int.le_refl _, Int.le_refl _⟩, fun d _ => ⟨_, List.mem_singleton.2 rfl, rfl⟩, fun d _ => ⟨_, List.mem_singleton.2 rfl, rfl⟩⟩

theorem put_left {w W : World} {dims N g cap ob pl k d : Nat} {q : TP} {b : Bool} {T r : IT} {xs : List Nat} {rs1 : List KR} {x y : KR} (hps : PS w W dims N g cap ob q b pl (rs1.set k y)) (hx : rs1[k]? = some x) (hkN : k < N)
    (hC : Cont dims b N q.xs T (rs1.map KR.plain) (.node k xs d .nil r) k) (hn : (IT.node k xs d .nil r).ids.Nodup) (hr : Rep dims b (rs1.map KR.plain) r x.r)
    (x1 : x.p.xs = xs) (x2 : x.pl = d) (p1 : y.p = x.p) (p2 : y.pl = x.pl) (p4 : y.r = x.r) (hby : BxOk dims b (q.xs :: (IT.node k xs d .nil r).T.all) y.mn.xs y.mx.xs) (epl : pl = (d + 1) % dims) (hle : leX d q.xs xs = true) (hl : q.xs.length = dims) (hq : ∀ v ∈ q.xs, ∃ n, Wh v n) :
    ∃ (rs2 : List KR) (pl' : Nat), PS w (W.setCell ⟨g, k * 6 + 2, none⟩ (.int .i64 (N : Int))) dims N g cap ob q b pl' rs2 ∧ ∃ T' : IT, Rep dims b (rs2.map KR.plain ++ [onePR q b pl']) T' 0 ∧ T'.T = KB.ins leX dims q.xs 0 T.T ∧ T'.ids.Nodup := by
  have hk : k < rs1.length := (List.getElem?_eq_some_iff.1 hx).1
  have hlen : rs1.length = N := by have := hps.len; rwa [List.length_set] at this
  have h1 := hps.left (x := y) (List.getElem?_set_self hk) (N : Int)
  rw [List.set_set] at h1
  have hxp : (rs1.map KR.plain)[k]? = some x.plain := by rw [List.getElem?_map, hx]; rfl
  obtain ⟨T', t1, t2, t3, t4⟩ := cont_hang_left (R' := (rs1.set k { y with l := (N : Int) }).map KR.plain ++ [onePR q b pl]) (x := x.plain) (y := ({ y with l := (N : Int) } : KR).plain) (o := onePR q b pl) hC rfl hkN hn hxp (by rw [plain_set]) (by rw [List.length_map]; exact hlen)
    ⟨by show y.p.xs = xs; rw [p1]; exact x1, by show y.pl = d; rw [p2]; exact x2, rfl, p4⟩ hby hr hle ⟨rfl, epl, rfl, rfl⟩ (one_box hl hq)
  exact ⟨_, pl, h1, T', t1, t2, t4⟩

theorem put_right {w W : World} {dims N g cap ob pl k d : Nat} {q : TP} {b : Bool} {T l : IT} {xs : List Nat} {rs1 : List KR} {x y : KR} (hps : PS w W dims N g cap ob q b pl (rs1.set k y)) (hx : rs1[k]? = some x) (hkN : k < N)
    (hC : Cont dims b N q.xs T (rs1.map KR.plain) (.node k xs d l .nil) k) (hn : (IT.node k xs d l .nil).ids.Nodup) (hr : Rep dims b (rs1.map KR.plain) l x.l)
    (x1 : x.p.xs = xs) (x2 : x.pl = d) (p1 : y.p = x.p) (p2 : y.pl = x.pl) (p3 : y.l = x.l) (hby : BxOk dims b (q.xs :: (IT.node k xs d l .nil).T.all) y.mn.xs y.mx.xs) (epl : pl = (d + 1) % dims) (hle : leX d q.xs xs = false) (hl : q.xs.length = dims) (hq : ∀ v ∈ q.xs, ∃ n, Wh v n) :
    ∃ (rs2 : List KR) (pl' : Nat), PS w (W.setCell ⟨g, k * 6 + 3, none⟩ (.int .i64 (N : Int))) dims N g cap ob q b pl' rs2 ∧ ∃ T' : IT, Rep dims b (rs2.map KR.plain ++ [onePR q b pl']) T' 0 ∧ T'.T = KB.ins leX dims q.xs 0 T.T ∧ T'.ids.Nodup := by
  have hk : k < rs1.length := (List.getElem?_eq_some_iff.1 hx).1
  have hlen : rs1.length = N := by have := hps.len; rwa [List.length_set] at this
  have h1 := hps.right (x := y) (List.getElem?_set_self hk) (N : Int)
  rw [List.set_set] at h1
  have hxp : (rs1.map KR.plain)[k]? = some x.plain := by rw [List.getElem?_map, hx]; rfl
  obtain ⟨T', t1, t2, t3, t4⟩ := cont_hang_right (R' := (rs1.set k { y with r := (N : Int) }).map KR.plain ++ [onePR q b pl]) (x := x.plain) (y := ({ y with r := (N : Int) } : KR).plain) (o := onePR q b pl) hC rfl hkN hn hxp (by rw [plain_set]) (by rw [List.length_map]; exact hlen)
    ⟨by show y.p.xs = xs; rw [p1]; exact x1, by show y.pl = d; rw [p2]; exact x2, p3, rfl⟩ hby hr hle ⟨rfl, epl, rfl, rfl⟩ (one_box hl hq)
  exact ⟨_, pl, h1, T', t1, t2, t4⟩

/-- The state at the head of a round: the point goes on into the node at place k. -/
def PutAt (w W : World) (dims N g cap ob : Nat) (q : TP) (b : Bool) (pl : Nat) (T : IT) (rs : List KR) (k : Nat) (xs : List Nat) (d : Nat) (l r : IT) : Prop :=
  PS w W dims N g cap ob q b pl rs ∧ Rep dims b (rs.map KR.plain) (.node k xs d l r) k ∧ (IT.node k xs d l r).ids.Nodup ∧ Cont dims b N q.xs T (rs.map KR.plain) (.node k xs d l r) k ∧ (IT.node k xs d l r).T.Each (fun _ d => d < dims) ∧ ∀ p ∈ (IT.node k xs d l r).T.all, p.length = dims ∧ ∀ x ∈ p, ∃ n, Wh x n

theorem put_downl {w W : World} {dims N g cap ob pl k d k' d' : Nat} {q : TP} {b : Bool} {T l' r' r : IT} {xs xs' : List Nat} {rs1 : List KR} {x y : KR} (hps : PS w W dims N g cap ob q b pl (rs1.set k y)) (hx : rs1[k]? = some x) (hkN : k < N)
    (hC : Cont dims b N q.xs T (rs1.map KR.plain) (.node k xs d (.node k' xs' d' l' r') r) k ∧ (IT.node k xs d (.node k' xs' d' l' r') r).ids.Nodup ∧ (IT.node k xs d (.node k' xs' d' l' r') r).T.Each (fun _ d => d < dims) ∧ ∀ p ∈ (IT.node k xs d (.node k' xs' d' l' r') r).T.all, p.length = dims ∧ ∀ x ∈ p, ∃ n, Wh x n)
    (hl : Rep dims b (rs1.map KR.plain) (.node k' xs' d' l' r') x.l) (hr : Rep dims b (rs1.map KR.plain) r x.r)
    (x1 : x.p.xs = xs) (x2 : x.pl = d) (p1 : y.p = x.p) (p2 : y.pl = x.pl) (p3 : y.l = x.l) (p4 : y.r = x.r) (hby : BxOk dims b (q.xs :: (IT.node k xs d (.node k' xs' d' l' r') r).T.all) y.mn.xs y.mx.xs) (hle : leX d q.xs xs = true) :
    PutAt w W dims N g cap ob q b pl T (rs1.set k y) k' xs' d' l' r' := by
  obtain ⟨hC, hn, hE, hP⟩ := hC
  have hlen : rs1.length = N := by have := hps.len; rwa [List.length_set] at this
  have hxp : (rs1.map KR.plain)[k]? = some x.plain := by rw [List.getElem?_map, hx]; rfl
  have hi : x.l = (k' : Int) := hl.1
  have hc := cont_left (R1 := (rs1.set k y).map KR.plain) (x := x.plain) (y := y.plain) hC rfl hkN hn hxp (by rw [plain_set]) (by rw [List.length_map]; exact hlen)
    ⟨by show y.p.xs = xs; rw [p1]; exact x1, by show y.pl = d; rw [p2]; exact x2, p3, p4⟩ hby hr hle (by simp)
  obtain ⟨n1, n2⟩ := List.nodup_cons.1 hn
  obtain ⟨n3, n4, n5⟩ := List.nodup_append.1 n2
  have hrep : Rep dims b ((rs1.set k y).map KR.plain) (.node k' xs' d' l' r') x.l := hl.keep fun j hj => by
    rw [plain_set, List.getElem?_set_ne (fun e => n1 (by rw [e]; exact List.mem_append.2 (.inl hj)))]
  rw [hi] at hrep
  have hxl : x.plain.l = (k' : Int) := hi
  rw [hxl] at hc
  exact ⟨hps, hrep, n3, hc, hE.2.1, fun p hp => hP p (by simp only [IT.T, KB.T.all, List.mem_append, List.mem_cons] at hp ⊢; exact .inl hp)⟩

theorem put_downr {w W : World} {dims N g cap ob pl k d k' d' : Nat} {q : TP} {b : Bool} {T l' r' l : IT} {xs xs' : List Nat} {rs1 : List KR} {x y : KR} (hps : PS w W dims N g cap ob q b pl (rs1.set k y)) (hx : rs1[k]? = some x) (hkN : k < N)
    (hC : Cont dims b N q.xs T (rs1.map KR.plain) (.node k xs d l (.node k' xs' d' l' r')) k ∧ (IT.node k xs d l (.node k' xs' d' l' r')).ids.Nodup ∧ (IT.node k xs d l (.node k' xs' d' l' r')).T.Each (fun _ d => d < dims) ∧ ∀ p ∈ (IT.node k xs d l (.node k' xs' d' l' r')).T.all, p.length = dims ∧ ∀ x ∈ p, ∃ n, Wh x n)
    (hl : Rep dims b (rs1.map KR.plain) l x.l) (hr : Rep dims b (rs1.map KR.plain) (.node k' xs' d' l' r') x.r)
    (x1 : x.p.xs = xs) (x2 : x.pl = d) (p1 : y.p = x.p) (p2 : y.pl = x.pl) (p3 : y.l = x.l) (p4 : y.r = x.r) (hby : BxOk dims b (q.xs :: (IT.node k xs d l (.node k' xs' d' l' r')).T.all) y.mn.xs y.mx.xs) (hle : leX d q.xs xs = false) :
    PutAt w W dims N g cap ob q b pl T (rs1.set k y) k' xs' d' l' r' := by
  obtain ⟨hC, hn, hE, hP⟩ := hC
  have hlen : rs1.length = N := by have := hps.len; rwa [List.length_set] at this
  have hxp : (rs1.map KR.plain)[k]? = some x.plain := by rw [List.getElem?_map, hx]; rfl
  have hi : x.r = (k' : Int) := hr.1
  have hc := cont_right (R1 := (rs1.set k y).map KR.plain) (x := x.plain) (y := y.plain) hC rfl hkN hn hxp (by rw [plain_set]) (by rw [List.length_map]; exact hlen)
    ⟨by show y.p.xs = xs; rw [p1]; exact x1, by show y.pl = d; rw [p2]; exact x2, p3, p4⟩ hby hl hle (by simp)
  obtain ⟨n1, n2⟩ := List.nodup_cons.1 hn
  obtain ⟨n3, n4, n5⟩ := List.nodup_append.1 n2
  have hrep : Rep dims b ((rs1.set k y).map KR.plain) (.node k' xs' d' l' r') x.r := hr.keep fun j hj => by
    rw [plain_set, List.getElem?_set_ne (fun e => n1 (by rw [e]; exact List.mem_append.2 (.inr hj)))]
  rw [hi] at hrep
  have hxl : x.plain.r = (k' : Int) := hi
  rw [hxl] at hc
  exact ⟨hps, hrep, n4, hc, hE.2.2, fun p hp => hP p (by simp only [IT.T, KB.T.all, List.mem_append, List.mem_cons] at hp ⊢; exact .inr (.inr hp))⟩
end Go.Proofs.Ytmeooadgdagiiaa.W

namespace Go.Proofs.Ytmeooadgdagiiaa.W
open Go.RowKit Lox
set_option linter.unusedVariables false
attribute [local go_sem] run_store_flt run_store_fn
attribute [local go_sem ↓] Go.wp_at_zero Go.wp_at_succ

/-- The closure of SameTree, as a value. -/
def sameV (pa pb ps : Nat) : Value := .func (Fn.func 40) #[] #[.pointer (some ⟨pa, 0, none⟩), .pointer (some ⟨pb, 0, none⟩), .pointer (some ⟨ps, 0, none⟩)]

/-- Two rows, and the variables that hold them. -/
structure S2 (w : World) (dims n pa pb ps ga gb ca cb : Nat) (r1 r2 : List KR) : Prop where
  k1 : KS 0 w dims (.slice (some ⟨ga, 0, none⟩) n ca) r1
  k2 : KS 0 w dims (.slice (some ⟨gb, 0, none⟩) n cb) r2
  l1 : r1.length = n
  l2 : r2.length = n
  ba : Blk w pa 28 [.slice (some ⟨ga, 0, none⟩) n ca]
  bb : Blk w pb 28 [.slice (some ⟨gb, 0, none⟩) n cb]
  bs : Blk w ps 88 [sameV pa pb ps]

theorem S2.mod {w w' : World} {dims n pa pb ps ga gb ca cb : Nat} {r1 r2 : List KR} (h : S2 w dims n pa pb ps ga gb ca cb r1 r2) (hm : Mod (fun _ => False) w w') : S2 w' dims n pa pb ps ga gb ca cb r1 r2 :=
  ⟨h.k1.mod hm, h.k2.mod hm, h.l1, h.l2, h.ba.mod hm (fun h => h), h.bb.mod hm (fun h => h), h.bs.mod hm (fun h => h)⟩

/-- What of a row's numbers is told. -/
def Nums (w : World) (p : TP) (m : Nat) : Prop := p.v = .slice p.A m p.c ∧ Sl w p.A m 1 (flts p.xs) ∧ ∀ x ∈ p.xs, ∃ n, Wh x n

theorem Nums.mod {w w' : World} {p : TP} {m : Nat} (h : Nums w p m) (hm : Mod (fun _ => False) w w') : Nums w' p m := ⟨h.1, h.2.1.mod hm, h.2.2⟩

theorem nums_own {w : World} {B dims : Nat} {v : Value} {p : TP} (h : p.Own B w dims v) (hg : ∀ x ∈ p.xs, ∃ n, Wh x n) : Nums w p dims := by
  have e := h.1.1
  refine ⟨by rw [← e]; rfl, ?_, hg⟩
  have := h.1.2
  rwa [e] at this

theorem nums_box {w : World} {B dims m : Nat} {b : Bool} {v : Value} {p : TP} (hm : m = if b = true then dims else 0) (hd : 0 < dims) (h : p.Own0 B w dims v) (hl : b = true → p.xs.length = dims ∧ ∀ x ∈ p.xs, ∃ n, Wh x n) (h0 : b = false → p.xs = []) : Nums w p m := by
  cases b with
  | true =>
    obtain ⟨e, hg⟩ := hl rfl
    rw [if_pos rfl] at hm
    subst hm
    rcases h with rfl | h
    · exact absurd e (by simp; omega)
    · exact nums_own h hg
  | false =>
    have e := h0 rfl
    rw [if_neg (by decide)] at hm
    subst hm
    refine ⟨by unfold TP.v; rw [e]; rfl, ⟨by rw [e]; rfl, fun h => by omega⟩, by rw [e]; intro x hx; cases hx⟩

theorem box_nums {dims : Nat} {b : Bool} {ps : List (List Nat)} {mn mx : List Nat} (h : BxOk dims b ps mn mx) : (b = true → mn.length = dims ∧ ∀ x ∈ mn, ∃ n, Wh x n) ∧ (b = false → mn = []) ∧ (b = true → mx.length = dims ∧ ∀ x ∈ mx, ∃ n, Wh x n) ∧ (b = false → mx = []) := by
  unfold BxOk at h
  cases b with
  | true =>
    have h : BoxOf dims ps mn mx := h
    exact ⟨fun _ => ⟨h.lmn, h.wmn⟩, fun h => (by cases h), fun _ => ⟨h.lmx, h.wmx⟩, fun h => (by cases h)⟩
  | false =>
    have h : mn = [] ∧ mx = [] := h
    exact ⟨fun h => (by cases h), fun _ => h.1, fun h => (by cases h), fun _ => h.2⟩

theorem box_same {dims : Nat} {b : Bool} {ps : List (List Nat)} {mn mx mn' mx' : List Nat} (h : BxOk dims b ps mn mx) (k : BxOk dims b ps mn' mx') : mn.map zi = mn'.map zi ∧ mx.map zi = mx'.map zi := by
  unfold BxOk at h k
  cases b with
  | true =>
    have h : BoxOf dims ps mn mx := h
    have k : BoxOf dims ps mn' mx' := k
    exact h.same k
  | false =>
    have h : mn = [] ∧ mx = [] := h
    have k : mn' = [] ∧ mx' = [] := k
    rw [h.1, h.2, k.1, k.2]
    exact ⟨rfl, rfl⟩

theorem two_new {w : World} {c1 c2 : Array Value} {T : TypeId} : Blk ((w.alloc (.cells c1 T)).alloc (.cells c2 T)).drew w.heap.size T c1.toList ∧ Blk ((w.alloc (.cells c1 T)).alloc (.cells c2 T)).drew (w.heap.size + 1) T c2.toList ∧ Mod (fun _ => False) w ((w.alloc (.cells c1 T)).alloc (.cells c2 T)).drew := by
  have h := (Blk.new' (w.alloc (.cells c1 T)) c2 T).drew
  rw [World.size_alloc] at h
  exact ⟨((Blk.new' w c1 T).alloc _).drew, h, (((Mod.refl _ _).alloc _).alloc _).drew⟩

set_option maxRecDepth 100000 in
set_option maxHeartbeats 4000000 in
theorem same1_at (dims n pa pb ps ga gb ca cb : Nat) (b : Bool) (r1 r2 : List KR) (hd : 0 < dims ∧ dims ≤ 1099511627776) (hn : n ≤ 1000000) (t1 : IT) :
    ∀ (t2 : IT) (i k : Int) (w : World), S2 w dims n pa pb ps ga gb ca cb r1 r2 → Rep dims b (r1.map KR.plain) t1 i → Rep dims b (r2.map KR.plain) t2 k → t1.T = t2.T → (∀ p ∈ t1.T.all, p.length = dims ∧ ∀ x ∈ p, ∃ n, Wh x n) →
    Calls Try.prog 40 #[.int .i64 i, .int .i64 k, .pointer (some ⟨pa, 0, none⟩), .pointer (some ⟨pb, 0, none⟩), .pointer (some ⟨ps, 0, none⟩)] w fun e w' => e = .returned (.bool true) ∧ Mod (fun _ => False) w w' := by
  induction t1 with
  | nil =>
    intro t2 i k w hS h1 h2 hT hP
    cases t2 with
    | node => exact absurd hT (by simp [IT.T])
    | nil =>
      obtain rfl : i = -1 := h1
      obtain rfl : k = -1 := h2
      clear hS hT hP
      go_enter Try.func40, Try.ntmps40
      go_wp2
      go_ret
      exact ⟨rfl, Mod.refl _ _⟩
  | node k1 xs d l1 r1' ihl ihr =>
    intro t2 i k w hS h1 h2 hT hP
    cases t2 with
    | nil => exact absurd hT (by simp [IT.T])
    | node k2 xs2 d2 l2 r2' =>
      simp only [IT.T, KB.T.node.injEq] at hT
      obtain ⟨rfl, rfl, e1, e2⟩ := hT
      have hall : (IT.node k2 xs d l2 r2').T.all = (IT.node k1 xs d l1 r1').T.all := by simp only [IT.T, e1, e2]
      obtain ⟨rfl, xp, hxp, a1, a2, a3, a4, a5⟩ := h1
      obtain ⟨rfl, yp, hyp, b1, b2, b3, b4, b5⟩ := h2
      rw [hall] at b3
      obtain ⟨x, hx, rfl⟩ := plain_get hxp
      obtain ⟨y, hy, rfl⟩ := plain_get hyp
      have k1n : k1 < n := by rw [← hS.l1]; exact (List.getElem?_eq_some_iff.1 hx).1
      have k2n : k2 < n := by rw [← hS.l2]; exact (List.getElem?_eq_some_iff.1 hy).1
      obtain ⟨m, em⟩ : ∃ m, m = if b = true then dims else 0 := ⟨_, rfl⟩
      have hm : m ≤ 9223372036854775807 := by rw [em]; split <;> omega
      have hx3 := hS.k1.ok x (List.mem_of_getElem? hx)
      have hy3 := hS.k2.ok y (List.mem_of_getElem? hy)
      obtain ⟨f1, f2, f3, f4⟩ := box_nums a3
      obtain ⟨g1, g2, g3, g4⟩ := box_nums b3
      obtain ⟨s1, s2⟩ := box_same a3 b3
      have hxs := hP xs (by simp [IT.T, KB.T.all])
      have a1 : x.p.xs = xs := a1
      have b1 : y.p.xs = xs := b1
      have n1 := nums_own hx3.1 (by rw [a1]; exact hxs.2)
      have n2 := nums_own hy3.1 (by rw [b1]; exact hxs.2)
      have n3 := nums_box em hd.1 hx3.2.1 f1 f2
      have n4 := nums_box em hd.1 hy3.2.1 g1 g2
      have n5 := nums_box em hd.1 hx3.2.2 f3 f4
      have n6 := nums_box em hd.1 hy3.2.2 g3 g4
      have cx : ∀ j, j < 6 → w.cell? ⟨ga, k1 * 6 + j, none⟩ = x.cells[j]? := fun j hj => (hS.k1.cell hS.l1.symm hx hj).1
      have cy : ∀ j, j < 6 → w.cell? ⟨gb, k2 * 6 + j, none⟩ = y.cells[j]? := fun j hj => (hS.k2.cell hS.l2.symm hy hj).1
      have x0 : w.cell? ⟨ga, k1 * 6, none⟩ = some (.slice x.p.A dims x.p.c) := by have := cx 0 (by omega); rw [Nat.add_zero] at this; rw [this]; exact congrArg some n1.1
      have x1 : w.cell? ⟨ga, k1 * 6 + 1, none⟩ = some (.int .i64 d) := by rw [cx 1 (by omega)]; show some (Value.int .i64 x.plain.pl) = _; rw [a2]
      have x2 : w.cell? ⟨ga, k1 * 6 + 2, none⟩ = some (.int .i64 x.l) := cx 2 (by omega)
      have x3 : w.cell? ⟨ga, k1 * 6 + 3, none⟩ = some (.int .i64 x.r) := cx 3 (by omega)
      have x4 : w.cell? ⟨ga, k1 * 6 + 4, none⟩ = some (.slice x.mn.A m x.mn.c) := by rw [cx 4 (by omega)]; exact congrArg some n3.1
      have x5 : w.cell? ⟨ga, k1 * 6 + 5, none⟩ = some (.slice x.mx.A m x.mx.c) := by rw [cx 5 (by omega)]; exact congrArg some n5.1
      have y0 : w.cell? ⟨gb, k2 * 6, none⟩ = some (.slice y.p.A dims y.p.c) := by have := cy 0 (by omega); rw [Nat.add_zero] at this; rw [this]; exact congrArg some n2.1
      have y1 : w.cell? ⟨gb, k2 * 6 + 1, none⟩ = some (.int .i64 d) := by rw [cy 1 (by omega)]; show some (Value.int .i64 y.plain.pl) = _; rw [b2]
      have y2 : w.cell? ⟨gb, k2 * 6 + 2, none⟩ = some (.int .i64 y.l) := cy 2 (by omega)
      have y3 : w.cell? ⟨gb, k2 * 6 + 3, none⟩ = some (.int .i64 y.r) := cy 3 (by omega)
      have y4 : w.cell? ⟨gb, k2 * 6 + 4, none⟩ = some (.slice y.mn.A m y.mn.c) := by rw [cy 4 (by omega)]; exact congrArg some n4.1
      have y5 : w.cell? ⟨gb, k2 * 6 + 5, none⟩ = some (.slice y.mx.A m y.mx.c) := by rw [cy 5 (by omega)]; exact congrArg some n6.1
      have pA : w.cell? ⟨pa, 0, none⟩ = some (.slice (some ⟨ga, 0, none⟩) n ca) := hS.ba.at (i := 0) rfl
      have pB : w.cell? ⟨pb, 0, none⟩ = some (.slice (some ⟨gb, 0, none⟩) n cb) := hS.bb.at (i := 0) rfl
      have IL : Hid (∀ w1, Mod (fun _ => False) w w1 → Calls Try.prog 40 #[.int .i64 x.l, .int .i64 y.l, .pointer (some ⟨pa, 0, none⟩), .pointer (some ⟨pb, 0, none⟩), .pointer (some ⟨ps, 0, none⟩)] w1 fun e w' => e = .returned (.bool true) ∧ Mod (fun _ => False) w1 w') := fun w1 hm1 => ihl l2 x.l y.l w1 (hS.mod hm1) a4 b4 e1 fun p hp => hP p (by simp only [IT.T, KB.T.all, List.mem_append]; exact .inl hp)
      have IR : Hid (∀ w1, Mod (fun _ => False) w w1 → Calls Try.prog 40 #[.int .i64 x.r, .int .i64 y.r, .pointer (some ⟨pa, 0, none⟩), .pointer (some ⟨pb, 0, none⟩), .pointer (some ⟨ps, 0, none⟩)] w1 fun e w' => e = .returned (.bool true) ∧ Mod (fun _ => False) w1 w') := fun w1 hm1 => ihr r2' x.r y.r w1 (hS.mod hm1) a5 b5 e2 fun p hp => hP p (by simp only [IT.T, KB.T.all, List.mem_append, List.mem_cons]; exact .inr (.inr hp))
      have HN := Lib.hid (And.intro n1 (And.intro n2 (And.intro n3 (And.intro n4 (And.intro n5 (And.intro n6 (And.intro (show x.p.xs.map zi = y.p.xs.map zi by rw [a1, b1]) (And.intro s1 s2))))))))
      have HS := Lib.hid hS
      clear hS cx cy hx3 hy3 f1 f2 f3 f4 g1 g2 g3 g4 s1 s2 n1 n2 n3 n4 n5 n6 em hxs a1 a2 a3 a4 a5 b1 b2 b3 b4 b5 hx hy hxp hyp hall e1 e2 hP ihl ihr
      have zA := lt_of_cell pA
      have zB := lt_of_cell pB
      have zx := lt_of_cell x0
      have zy := lt_of_cell y0
      have q1 : (0 : Int) ≤ k1 := by omega
      have q2 : (k1 : Int) < n := by omega
      have q3 : (0 : Int) ≤ k2 := by omega
      have q4 : (k2 : Int) < n := by omega
      have q5 : ¬ ((k1 : Int) < 0) := by omega
      have q6 : ¬ ((k2 : Int) < 0) := by omega
      go_enter Try.func40, Try.ntmps40
      go_upto_region 3 with fail
      go_cut [8, 9] from 10 to 29 (fun v8 v9 wx => Hid (∃ a c, v8 = .pointer (some ⟨a, 0, none⟩) ∧ v9 = .pointer (some ⟨c, 0, none⟩) ∧ Mod (fun _ => False) w wx ∧ Blk wx a 39 [.slice x.p.A dims x.p.c, .int .i64 d, .int .i64 x.l, .int .i64 x.r, .slice x.mn.A m x.mn.c, .slice x.mx.A m x.mx.c] ∧ Blk wx c 39 [.slice y.p.A dims y.p.c, .int .i64 d, .int .i64 y.l, .int .i64 y.r, .slice y.mn.A m y.mn.c, .slice y.mx.A m y.mx.c]))
      case first =>
        go_region
        all_goals
          go_wp2_with fail
          go_meet
          first
            | exact ⟨_, _, rfl, rfl, two_new.2.2, two_new.1, two_new.2.1⟩
            | exact ⟨_, _, rfl, rfl, two_new.2.2, two_new.2.1, two_new.1⟩
      case rest =>
        obtain ⟨a, c, rfl, rfl, hm1, ba, bc⟩ := hcut
        have pS : wc.cell? ⟨ps, 0, none⟩ = some (.func (Fn.func 40) #[] #[.pointer (some ⟨pa, 0, none⟩), .pointer (some ⟨pb, 0, none⟩), .pointer (some ⟨ps, 0, none⟩)]) := (HS.out.mod hm1).bs.at (i := 0) rfl
        have u0 := ba.at (i := 0) rfl
        have u1 := ba.at (i := 1) rfl
        have u2 := ba.at (i := 2) rfl
        have u4 := ba.at (i := 4) rfl
        have u5 := ba.at (i := 5) rfl
        have v0 := bc.at (i := 0) rfl
        have v1 := bc.at (i := 1) rfl
        have v2 := bc.at (i := 2) rfl
        have v4 := bc.at (i := 4) rfl
        have v5 := bc.at (i := 5) rfl
        have HM := Lib.hid (And.intro hm1 (And.intro ba bc))
        have hdm : dims ≤ 9223372036854775807 := by omega
        clear hm1 ba bc x0 x1 x2 x3 x4 x5 y0 y1 y2 y3 y4 y5 pA pB zA zB zx zy
        have SP1 : Hid (Calls Try.prog 15 #[.slice x.p.A dims x.p.c, .slice y.p.A dims y.p.c] wc fun e w' => e = .returned (.bool true) ∧ wc = w') := same_at x.p.A y.p.A dims x.p.c y.p.c x.p.xs y.p.xs true wc (HN.out.1.mod HM.out.1).2.1 (HN.out.2.1.mod HM.out.1).2.1 hdm HN.out.1.2.2 HN.out.2.1.2.2 (decide_eq_true HN.out.2.2.2.2.2.2.1).symm
        have SP2 : Hid (Calls Try.prog 15 #[.slice x.mn.A m x.mn.c, .slice y.mn.A m y.mn.c] wc fun e w' => e = .returned (.bool true) ∧ wc = w') := same_at x.mn.A y.mn.A m x.mn.c y.mn.c x.mn.xs y.mn.xs true wc (HN.out.2.2.1.mod HM.out.1).2.1 (HN.out.2.2.2.1.mod HM.out.1).2.1 hm HN.out.2.2.1.2.2 HN.out.2.2.2.1.2.2 (decide_eq_true HN.out.2.2.2.2.2.2.2.1).symm
        have SP3 : Hid (Calls Try.prog 15 #[.slice x.mx.A m x.mx.c, .slice y.mx.A m y.mx.c] wc fun e w' => e = .returned (.bool true) ∧ wc = w') := same_at x.mx.A y.mx.A m x.mx.c y.mx.c x.mx.xs y.mx.xs true wc (HN.out.2.2.2.2.1.mod HM.out.1).2.1 (HN.out.2.2.2.2.2.1.mod HM.out.1).2.1 hm HN.out.2.2.2.2.1.2.2 HN.out.2.2.2.2.2.1.2.2 (decide_eq_true HN.out.2.2.2.2.2.2.2.2).symm
        go_wp2_with (first
          | (go_at_call 15; with_reducible refine SP1.out.mono ?_; rintro _ _ ⟨rfl, rfl⟩)
          | (go_at_call 15; with_reducible refine SP2.out.mono ?_; rintro _ _ ⟨rfl, rfl⟩)
          | (go_at_call 15; with_reducible refine SP3.out.mono ?_; rintro _ _ ⟨rfl, rfl⟩)
          | (go_at_call 40; with_reducible refine (IL.out _ HM.out.1).mono ?_; rintro _ w2 ⟨rfl, hm2⟩; have pS2 : w2.cell? ⟨ps, 0, none⟩ = some (.func (Fn.func 40) #[] #[.pointer (some ⟨pa, 0, none⟩), .pointer (some ⟨pb, 0, none⟩), .pointer (some ⟨ps, 0, none⟩)]) := (HS.out.mod (HM.out.1.trans hm2)).bs.at (i := 0) rfl; have u3 := (HM.out.2.1.mod hm2 (fun h => h)).at (i := 3) rfl; have v3 := (HM.out.2.2.mod hm2 (fun h => h)).at (i := 3) rfl; have HM2 := Lib.hid (HM.out.1.trans hm2); clear hm2)
          | (go_at_call 40; with_reducible refine (IR.out _ HM2.out).mono ?_; rintro _ w3 ⟨rfl, hm3⟩; have HM3 := Lib.hid (HM2.out.trans hm3); clear hm3))
        go_ret
        exact ⟨rfl, HM3.out⟩

set_option maxRecDepth 100000 in
set_option maxHeartbeats 4000000 in
theorem same_tree (dims n ga gb ca cb : Nat) (b : Bool) (r1 r2 : List KR) (hd : 0 < dims ∧ dims ≤ 1099511627776) (h0 : 0 < n) (hn : n ≤ 1000000) (t1 t2 : IT) (w : World) (k1 : KS 0 w dims (.slice (some ⟨ga, 0, none⟩) n ca) r1) (k2 : KS 0 w dims (.slice (some ⟨gb, 0, none⟩) n cb) r2) (l1 : r1.length = n) (l2 : r2.length = n) (h1 : Rep dims b (r1.map KR.plain) t1 0) (h2 : Rep dims b (r2.map KR.plain) t2 0) (hT : t1.T = t2.T) (hP : ∀ p ∈ t1.T.all, p.length = dims ∧ ∀ x ∈ p, ∃ n, Wh x n) :
    Calls Try.prog 14 #[.slice (some ⟨ga, 0, none⟩) n ca, .slice (some ⟨gb, 0, none⟩) n cb] w fun e w' => e = .returned (.bool true) ∧ Mod (fun _ => False) w w' := by
  have HH := Lib.hid (And.intro k1 (And.intro k2 (And.intro l1 (And.intro l2 (And.intro h1 (And.intro h2 (And.intro hT hP)))))))
  clear k1 k2 l1 l2 h1 h2 hT hP
  have hnz : ((n : Int) == 0) = false := by
    have : (n : Int) ≠ 0 := by omega
    simpa using this
  go_enter Try.func14, Try.ntmps14
  go_upto_region 3 with fail
  have HS : Hid (∀ W, W = (((w.alloc (.cells #[.slice (some ⟨ga, 0, none⟩) n ca] 28)).alloc (.cells #[.slice (some ⟨gb, 0, none⟩) n cb] 28)).alloc (.cells #[sameV w.heap.size (w.heap.size + 1) (w.heap.size + 2)] 88)) → S2 W dims n w.heap.size (w.heap.size + 1) (w.heap.size + 2) ga gb ca cb r1 r2 ∧ Mod (fun _ => False) w W) := by
    rintro W rfl
    have hm : Mod (fun _ => False) w (((w.alloc (.cells #[.slice (some ⟨ga, 0, none⟩) n ca] 28)).alloc (.cells #[.slice (some ⟨gb, 0, none⟩) n cb] 28)).alloc (.cells #[sameV w.heap.size (w.heap.size + 1) (w.heap.size + 2)] 88)) := (((Mod.refl _ _).alloc _).alloc _).alloc _
    refine ⟨⟨HH.out.1.mod hm, HH.out.2.1.mod hm, HH.out.2.2.1, HH.out.2.2.2.1, ((blk_new_at rfl _ _ rfl).alloc _).alloc _, (blk_new_at (by rw [World.size_alloc]) _ _ rfl).alloc _, blk_new_at (by rw [World.size_alloc, World.size_alloc]) _ _ rfl⟩, hm⟩
  go_wp2_with (go_at_call 40; refine ((same1_at dims n _ _ _ ga gb ca cb b r1 r2 hd hn t1 t2 0 0 _ (HS.out _ rfl).1 HH.out.2.2.2.2.1 HH.out.2.2.2.2.2.1 HH.out.2.2.2.2.2.2.1 HH.out.2.2.2.2.2.2.2)).mono ?_; rintro _ w2 ⟨rfl, hm2⟩; have HM := Lib.hid ((HS.out _ rfl).2.trans hm2); clear hm2)
  go_ret
  exact ⟨rfl, HM.out⟩
end Go.Proofs.Ytmeooadgdagiiaa.W

namespace Go.Proofs.Ytmeooadgdagiiaa.W
open Go.RowKit Lox
set_option linter.unusedVariables false
attribute [local go_sem] run_store_flt run_store_fn
attribute [local go_sem ↓] Go.wp_at_zero Go.wp_at_succ

theorem info_kn6 : (Try.prog.info? 39).map (fun i => (i.zero, i.size, i.bytes)) = some (some (.agg #[.slice none 0 0, .int .i64 0, .int .i64 0, .int .i64 0, .slice none 0 0, .slice none 0 0]), 6, 96) := by kernel_rfl

/-- What Put tells. -/
def PutTold (dims : Nat) (b : Bool) (q : TP) (T : IT) (rs : List KR) (w : World) (e : Ending) (w' : World) : Prop :=
  ∃ (A : Option Addr) (c : Nat) (rs' : List KR) (T' : IT), e = .returned (.slice A rs'.length c) ∧ KS 0 w' dims (.slice A rs'.length c) rs' ∧ rs'.length = rs.length + 1 ∧ Rep dims b (rs'.map KR.plain) T' 0 ∧ T'.T = KB.ins leX dims q.xs 0 T.T ∧ T'.ids.Nodup ∧ Mod (fun _ => False) w w'

theorem own_empty6 (w : World) (T : TypeId) : (w.alloc (.cells #[] T)).ownsRow w.heap.size T 6 (.slice (some ⟨w.heap.size, 0, none⟩) 0 0) 0 [] :=
  ⟨rfl, .inr ⟨w.heap.size, 0, #[], rfl, Nat.le_refl _, (Blk.new' w #[] T), Nat.le_refl _, by decide, rfl, rfl⟩⟩

theorem kr_one {rs : List KR} : ∀ u ∈ rs.flatMap KR.cells, u.oneCell' = true := by
  intro u hu
  obtain ⟨x, _, hx⟩ := List.mem_flatMap.1 hu
  simp only [KR.cells, List.mem_cons, List.not_mem_nil, or_false] at hx
  rcases hx with rfl | rfl | rfl | rfl | rfl | rfl <;> rfl

theorem put_first {w w1 : World} {dims n ga ca : Nat} {rs : List KR} {v : Value} (h0 : 0 < n) (hK : KS 0 w dims (.slice (some ⟨ga, 0, none⟩) n ca) rs) (hn : n = rs.length) (hd : 0 < dims) (hown : w1.ownsRow w.heap.size 39 6 v (0 + n) ([] ++ rs.flatMap KR.cells)) (hg : (w.alloc (.cells #[] 39)).grownBy w1 (Value.slice (some ⟨w.heap.size, 0, none⟩) 0 0).ownBlock) :
    ∃ g cap, v = .slice (some ⟨g, 0, none⟩) (0 + n) cap ∧ (KS 0 w1 dims (.slice (some ⟨g, 0, none⟩) n cap) rs ∧ Mod (fun _ => False) w w1 ∧ w.heap.size ≤ g ∧ g < w1.heap.size) := by
  have hm : Mod (fun _ => False) w w1 := all_m1 hg
  obtain ⟨g, cap, rfl, h1, h2⟩ := hown.form (by omega)
  refine ⟨g, cap, rfl, ?_, hm, h1, h2⟩
  rw [Nat.zero_add, List.nil_append] at hown
  have kp : ∀ p : TP, p.Own 0 w dims (.slice (some ⟨ga, 0, none⟩) n ca) → p.Own 0 w1 dims (.slice (some ⟨g, 0, none⟩) n cap) := fun p hp => ⟨hp.1.mod0 hm, fun b o e => ⟨Nat.zero_le _, fun e2 => by
    have e2 : some g = some b := e2
    injection e2 with e2
    have := (hp.1.2.far (by have := hp.1.1; omega)) (by rw [hp.1.1]; exact hd) b o e
    omega⟩⟩
  rw [hn] at hown ⊢
  rw [hn] at kp
  exact ⟨own_low6 hown (Nat.zero_le _), fun x hx => by rw [hn] at hK; exact ⟨kp _ (hK.ok x hx).1, (hK.ok x hx).2.1.imp id (kp _), (hK.ok x hx).2.2.imp id (kp _)⟩⟩

theorem put_second {w w1 : World} {dims n g cap : Nat} {q : TP} {rs : List KR} (h : KS 0 w1 dims (.slice (some ⟨g, 0, none⟩) n cap) rs ∧ Mod (fun _ => False) w w1 ∧ w.heap.size ≤ g ∧ g < w1.heap.size) (hn : n = rs.length) (hq : q.Ok w dims) (hd : 0 < dims) :
    PS w (w1.alloc (.cells #[.slice q.A dims q.c, .int .i64 0, .int .i64 (-1), .int .i64 (-1), .slice none 0 0, .slice none 0 0] 39)) dims n g cap w1.heap.size q false 0 rs := by
  obtain ⟨hK, hm, h1, h2⟩ := h
  have hma : Mod (fun _ => False) w1 (w1.alloc (.cells #[.slice q.A dims q.c, .int .i64 0, .int .i64 (-1), .int .i64 (-1), .slice none 0 0, .slice none 0 0] 39)) := (Mod.refl _ _).alloc _
  have hs := hm.size
  refine ⟨hK.mod hma, Blk.new' w1 _ _, hn.symm, (hq.mod0 hm).mod0 hma, fun b o e e2 => ?_, hm.trans hma, ⟨h1, hs, by omega⟩⟩
  subst e2
  have := (hq.2.far (by have := hq.1; omega)) (by rw [hq.1]; exact hd) _ o e
  omega

theorem set_same {α : Type} {l : List α} {k : Nat} {x : α} (h : l[k]? = some x) : l.set k x = l := by
  obtain ⟨hk, e⟩ := List.getElem?_eq_some_iff.1 h
  rw [← e]
  exact List.set_getElem_self hk

theorem cor_low {wr Wc w2 : World} {g dims b1 b2 c1 c2 : Nat} {mn mx : List Nat} (hm : Mod (fun _ => False) wr Wc) (hg : g < wr.heap.size) (h : Cor Wc.heap.size w2 dims b1 b2 c1 c2 mn mx) : Cor (g + 1) w2 dims b1 b2 c1 c2 mn mx := by
  have := hm.size
  exact ⟨own_low6 h.own1 (by omega), own_low6 h.own2 (by omega), h.ne⟩

/-- A box that has grown. -/
theorem put_grown {w w2 : World} {dims N g cap ob pl k b1 b2 c1 c2 : Nat} {q : TP} {xs : List Nat} {d : Nat} {l r : IT} {rs1 : List KR} {x : KR} {H : Nat} {F : List Nat × List Nat} (hd : 0 < dims) (h : PS w w2 dims N g cap ob q true pl rs1) (hx : rs1[k]? = some x) (hc : Cor H w2 dims b1 b2 c1 c2 F.1 F.2) (hH : g < H) (hb : BoxOf dims (q.xs :: (IT.node k xs d l r).T.all) F.1 F.2) :
    ∃ y : KR, PS w ((w2.setCell ⟨g, k * 6 + 4, none⟩ (.slice (some ⟨b1, 0, none⟩) dims c1)).setCell ⟨g, k * 6 + 5, none⟩ (.slice (some ⟨b2, 0, none⟩) dims c2)) dims N g cap ob q true pl (rs1.set k y) ∧ y.p = x.p ∧ y.pl = x.pl ∧ y.l = x.l ∧ y.r = x.r ∧ BxOk dims true (q.xs :: (IT.node k xs d l r).T.all) y.mn.xs y.mx.xs := by
  have o1 := (own_block hc.own1 (b := b1) rfl).1
  have o2 := (own_block hc.own2 (b := b2) rfl).1
  have m1 : TP.Own 0 w2 dims (.slice (some ⟨g, 0, none⟩) N cap) ⟨some ⟨b1, 0, none⟩, c1, F.1⟩ := ⟨⟨hb.lmn, by show Sl w2 _ F.1.length 1 _; rw [hb.lmn]; exact own_sl2 hc.own1⟩, fun b o e => ⟨Nat.zero_le _, fun e2 => by
    cases e
    have e2 : some g = some b1 := e2
    injection e2 with e2
    omega⟩⟩
  have m2 : TP.Own 0 w2 dims (.slice (some ⟨g, 0, none⟩) N cap) ⟨some ⟨b2, 0, none⟩, c2, F.2⟩ := ⟨⟨hb.lmx, by show Sl w2 _ F.2.length 1 _; rw [hb.lmx]; exact own_sl2 hc.own2⟩, fun b o e => ⟨Nat.zero_le _, fun e2 => by
    cases e
    have e2 : some g = some b2 := e2
    injection e2 with e2
    omega⟩⟩
  exact ⟨{ x with mn := ⟨some ⟨b1, 0, none⟩, c1, F.1⟩, mx := ⟨some ⟨b2, 0, none⟩, c2, F.2⟩ }, h.boxed hx m1 m2, rfl, rfl, rfl, rfl, hb⟩

theorem put_box {w W : World} {dims n g cap ob pl : Nat} {q : TP} {rs : List KR} (h : PS w W dims n g cap ob q false pl rs) : PS w ((W.setCell ⟨ob, 4, none⟩ (.slice q.A dims q.c)).setCell ⟨ob, 5, none⟩ (.slice q.A dims q.c)) dims n g cap ob q true pl rs := by
  have hm : Mod (fun k => k = ob) W ((W.setCell ⟨ob, 4, none⟩ (.slice q.A dims q.c)).setCell ⟨ob, 5, none⟩ (.slice q.A dims q.c)) := ((Mod.refl (fun k => k = ob) _).set (p := ⟨ob, 4, none⟩) (.inl rfl) _).set (p := ⟨ob, 5, none⟩) (.inl rfl) _
  have nf2 : NoFlt (W.setCell ⟨ob, 4, none⟩ (.slice q.A dims q.c)) ob := by
    intro o x hc
    have hb := h.one.set 4 (.slice q.A dims q.c)
    rw [hb.cell] at hc
    have hm := List.mem_of_getElem? hc
    simp [qb] at hm
  exact ⟨ks_other (ks_other h.ks h.lo.2.2 h.nf _) h.lo.2.2 nf2 _, (h.one.set 4 _).set 5 _, h.len, h.qok.noFlt hm fun k _ e => by subst e; exact h.nf, h.qf, (h.mod.set (.inr h.lo.2.1) _).set (.inr h.lo.2.1) _, h.lo⟩

theorem put_own {w W : World} {dims n g cap ob pl : Nat} {q : TP} {b : Bool} {rs : List KR} (h : PS w W dims n g cap ob q b pl rs) : W.ownsRow w.heap.size 39 6 (.slice (some ⟨g, 0, none⟩) n cap) n (rs.flatMap KR.cells) := by
  have ho := h.ks.own
  rw [h.len] at ho
  refine ⟨ho.1, ?_⟩
  rcases ho.2 with ⟨e, _⟩ | ⟨g', cap', cur, e1, hB, hg, rest⟩
  · cases e
  · cases e1
    exact .inr ⟨g, cap, cur, rfl, h.lo.1, hg, rest⟩

theorem put_end {w W w3 : World} {dims n g cap ob pl gg cap3 : Nat} {q : TP} {b : Bool} {T T' : IT} {rs rs2 : List KR} {o : Obj} (hd : 0 < dims) (hn : n = rs.length) (h : PS w W dims n g cap ob q b pl rs2) (h1 : Rep dims b (rs2.map KR.plain ++ [onePR q b pl]) T' 0) (h2 : T'.T = KB.ins leX dims q.xs 0 T.T) (h3 : T'.ids.Nodup)
    (hown : w3.ownsRow w.heap.size 39 6 (.slice (some ⟨gg, 0, none⟩) (n + 1) cap3) (n + 1) (rs2.flatMap KR.cells ++ [.slice q.A dims q.c, .int .i64 pl, .int .i64 (-1), .int .i64 (-1), qb b q dims, qb b q dims])) (hgrow : (W.alloc o).grownBy w3 (Value.slice (some ⟨g, 0, none⟩) n cap).ownBlock) (hat : (Value.slice (some ⟨g, 0, none⟩) n cap).ownBlock = some gg ∨ gg = W.heap.size + 1) :
    PutTold dims b q T rs w (.returned (.slice (some ⟨gg, 0, none⟩) (n + 1) cap3)) w3 := by
  have hl := h.len
  have hm : Mod (fun _ => False) w w3 := (h.mod.alloc o).grown hgrow (fun k e hk => by
    have e : some g = some k := e
    injection e with e
    have := h.lo.1
    omega)
  have hqo : q.Own 0 W dims (.slice (some ⟨g, 0, none⟩) n cap) := ⟨h.qok, fun b o e => ⟨Nat.zero_le _, fun e2 => by
    have e2 : some g = some b := e2
    injection e2 with e2
    exact h.qf b o e e2.symm⟩⟩
  obtain ⟨x, ex⟩ : ∃ x : KR, x = ⟨q, pl, -1, -1, if b = true then q else ⟨none, 0, []⟩, if b = true then q else ⟨none, 0, []⟩⟩ := ⟨_, rfl⟩
  have hxc : x.cells = [.slice q.A dims q.c, .int .i64 pl, .int .i64 (-1), .int .i64 (-1), qb b q dims, qb b q dims] := by
    have e : q.v = .slice q.A dims q.c := by rw [← h.qok.1]; rfl
    have e2 : (if b = true then q else (⟨none, 0, []⟩ : TP)).v = qb b q dims := by
      unfold qb
      cases b
      · rfl
      · exact e
    rw [ex]
    simp only [KR.cells, e, e2]
  have hxp : x.plain = onePR q b pl := by
    rw [ex]
    cases b <;> rfl
  have h0 : (if b = true then q else (⟨none, 0, []⟩ : TP)).Own0 0 W dims (.slice (some ⟨g, 0, none⟩) n cap) := by
    cases b
    · exact .inl rfl
    · exact .inr hqo
  have hks := h.ks
  rw [← hxc, ← hl] at hown
  rw [← hl] at hks hgrow hat
  have hp := hks.push (x := x) hd (by rw [ex, hl]; exact ⟨hqo, h0, h0⟩) (own_low6 hown (Nat.zero_le _)) hgrow hat
  have hlen : (rs2 ++ [x]).length = n + 1 := by rw [List.length_append, hl]; rfl
  refine ⟨some ⟨gg, 0, none⟩, cap3, rs2 ++ [x], T', by rw [hlen], by rw [hlen, ← hl]; exact hp, by rw [hlen, hn], by rw [List.map_append, List.map_cons, List.map_nil, hxp]; exact h1, h2, h3, hm⟩

set_option maxRecDepth 100000 in
set_option maxHeartbeats 8000000 in
theorem put_at (A : Option Addr) (n c dims : Nat) (q : TP) (b : Bool) (T : IT) (rs : List KR) (w : World) (hK : KS 0 w dims (.slice A n c) rs) (hn : n = rs.length) (hn0 : 0 < n) (hnb : n ≤ 1000000) (hd : 0 < dims ∧ dims ≤ 1099511627776) (hq : q.Ok w dims) (hqg : q.Gr)
    (hR : Rep dims b (rs.map KR.plain) T 0) (hT : T ≠ .nil) (hN : T.ids.Nodup) (hE : T.T.Each (fun _ d => d < dims)) (hP : ∀ p ∈ T.T.all, p.length = dims ∧ ∀ x ∈ p, ∃ n, Wh x n) :
    Calls Try.prog 12 #[.slice A n c, .slice q.A dims q.c, .bool b] w (PutTold dims b q T rs w) := by
  obtain ⟨i0, hi0, hz0, hz1, hz2⟩ := info_parts info_kn6
  have HI := Lib.hid (And.intro hi0 (And.intro hz0 (And.intro hz1 hz2)))
  clear hi0 hz0 hz1 hz2
  obtain ⟨ga, ca, e, hga, hgl⟩ := hK.own.form (by omega)
  injection e with e1 e2 e3
  subst e1
  have hcells : ∀ j u, (rs.flatMap KR.cells)[j]? = some u → w.cell? ⟨ga, j, none⟩ = some u := fun j u hu => by
    have := hK.own.cells (g := ga) (by rfl) j u hu
    rwa [addr_lit, Nat.zero_add] at this
  have hflat : (rs.flatMap KR.cells).length = n * 6 := by rw [flat6_len, hn]
  obtain ⟨k0, xs0, d0, l0, r0, rfl⟩ : ∃ k xs d l r, T = IT.node k xs d l r := by
    cases T with
    | nil => exact absurd rfl hT
    | node k xs d l r => exact ⟨k, xs, d, l, r, rfl⟩
  obtain ⟨ek0, x0p, hx0, hx1, hx2, hx3, hx4, hx5⟩ := id hR
  obtain rfl : k0 = 0 := by omega
  obtain ⟨x0, hr0, hp0⟩ := plain_get hx0
  have h04 : w.cell? ⟨ga, 4, none⟩ = some (.slice x0.mn.A x0.mn.xs.length x0.mn.c) := by
    have := (hK.cell hn hr0 (j := 4) (by omega)).1
    rw [Nat.zero_mul, Nat.zero_add] at this
    exact this
  have hmn : b = true → 0 < x0.mn.xs.length := fun hb => by
    have h : BxOk dims b _ x0p.mn x0p.mx := hx3
    unfold BxOk at h
    rw [if_pos hb] at h
    have h2 := h.lmn
    have h3 : x0p.mn = x0.mn.xs := by rw [← hp0]; rfl
    rw [h3] at h2
    omega
  have HH := Lib.hid (And.intro hK (And.intro hn (And.intro hq (And.intro hqg (And.intro hR (And.intro hN (And.intro hE (And.intro hP (And.intro hcells hflat)))))))))
  clear hK hn hq hqg hR hT hN hE hP hcells hflat hx0 hx1 hx2 hx3 hx4 hx5 hr0 hp0 ek0 hga e2 e3
  have hnz : ((n : Int) == 0) = false := by
    have : (n : Int) ≠ 0 := by omega
    simpa using this
  have hn1 : (0 : Int) < n := by omega
  have h04l := lt_of_cell h04
  go_enter Try.func12, Try.ntmps12
  go_upto_region 3 with (at_builtin; refine wpList_append_own _ rfl _ _ _ rfl w.heap.size 39 i0 (.agg #[.slice none 0 0, .int .i64 0, .int .i64 0, .int .i64 0, .slice none 0 0, .slice none 0 0]) 6 96 Try.underlying28 HI.out.1 HI.out.2.1 HI.out.2.2.1 HI.out.2.2.2 rfl (by decide) (.slice (some ⟨w.heap.size, 0, none⟩) 0 0) 0 [] rfl (own_empty6 w _) ⟨ga, 0, none⟩ n c (rs.flatMap KR.cells) rfl HH.out.2.2.2.2.2.2.2.2.2 (fun j u hu => by rw [addr_lit, Nat.zero_add]; exact (World.cell?_alloc_past _ _ _ (lt_of_cell (HH.out.2.2.2.2.2.2.2.2.1 j u hu))).trans (HH.out.2.2.2.2.2.2.2.2.1 j u hu)) kr_one (by unfold maxLen; omega) (by omega) (by rw [World.size_alloc]; omega) ?_; intro v1 w1 hown1 hgrow1 hat1; obtain ⟨g, cap, rfl, HO⟩ := put_first hn0 HH.out.1 HH.out.2.1 hd.1 hown1 hgrow1; clear hown1 hgrow1 hat1)
  obtain ⟨ob, eob⟩ : ∃ ob, ob = w1.heap.size := ⟨_, rfl⟩
  obtain ⟨W2, eW2⟩ : ∃ W2, W2 = w1.alloc (.cells #[.slice q.A dims q.c, .int .i64 0, .int .i64 (-1), .int .i64 (-1), .slice none 0 0, .slice none 0 0] 39) := ⟨_, rfl⟩
  have HP : Hid (PS w W2 dims n g cap ob q false 0 rs) := by
    rw [eW2, eob]
    exact put_second HO HH.out.2.1 HH.out.2.2.1 hd.1
  have hlo := HP.out.lo
  have hgob : ob ≠ g := hlo.2.2
  have h04' : W2.cell? ⟨ga, 4, none⟩ = some (.slice x0.mn.A x0.mn.xs.length x0.mn.c) := (HP.out.mod.cell h04l (fun h => h)).trans h04
  rw [← eW2, ← eob]
  clear eW2 eob h04 HO
  go_cut [2] from 17 to 30 (fun v wx => Hid (v = .bool b ∧ wx = W2))
  case first =>
    cases b with
    | false =>
      go_wp2_with fail
      go_meet
      exact ⟨rfl, rfl⟩
    | true =>
      have hx := hmn rfl
      have hx2 : (0 : Int) < x0.mn.xs.length := by omega
      go_wp2_with fail
      go_meet
      exact ⟨rfl, rfl⟩
  case rest =>
    obtain ⟨e2, rfl⟩ := hcut
    subst e2
    clear h04' hmn
    go_upto_if 31 with fail
    go_cut [] from 31 to 35 (fun wx => Hid (PS w wx dims n g cap ob q b 0 rs))
    case first =>
      cases b with
      | false =>
        go_wp2_with fail
        go_meet
        exact HP.out
      | true =>
        have y4 := HP.out.one.at (i := 4) rfl
        have y5 := HP.out.one.at (i := 5) rfl
        have z4 := HP.out.one.frozen 4
        have z5 := HP.out.one.frozen 5
        simp only [qb, Bool.false_eq_true, if_false] at y4 y5
        go_wp2_with fail
        go_meet
        exact put_box HP.out
    case rest =>
      have HS := Lib.hid hcut
      clear hcut HP h04l
      go_upto_block 0 with fail
      go_cut [] from 36 to 106 (fun wx => Hid (∃ (rs2 : List KR) (pl : Nat), PS w wx dims n g cap ob q b pl rs2 ∧ ∃ T' : IT, Rep dims b (rs2.map KR.plain ++ [onePR q b pl]) T' 0 ∧ T'.T = KB.ins leX dims q.xs 0 (IT.node 0 xs0 d0 l0 r0).T ∧ T'.ids.Nodup))
      case first =>
        go_wp2_with fail
        go_loopg [9] (IT.node 0 xs0 d0 l0 r0).ids.length (fun gk iv wr => ∃ (k : Nat) (xs : List Nat) (d : Nat) (l r : IT) (rs1 : List KR) (pl : Nat), iv = .int .i64 k ∧ (IT.node k xs d l r).ids.length ≤ gk ∧ k < n ∧ Hid (PutAt w wr dims n g cap ob q b pl (IT.node 0 xs0 d0 l0 r0) rs1 k xs d l r))
        case atStart => exact ⟨0, xs0, d0, l0, r0, rs, 0, rfl, Nat.le_refl _, hn0, HS.out, HH.out.2.2.2.2.1, HH.out.2.2.2.2.2.1, cont_first, HH.out.2.2.2.2.2.2.1, HH.out.2.2.2.2.2.2.2.1⟩
        case round =>
          obtain ⟨k, xs, d, l, r, rs1, pl, rfl, hgk, hkn, HR⟩ := hrel
          obtain ⟨hPS, hRep, hND, hC, hE, hP⟩ := HR.out
          obtain ⟨-, xp, hxp, e1, e2, e3, e4, e5⟩ := id hRep
          obtain ⟨x, hx, hxpl⟩ := plain_get hxp
          have x1 : x.p.xs = xs := by rw [← e1, ← hxpl]; rfl
          have x2 : x.pl = d := by rw [← e2, ← hxpl]; rfl
          have x3 : xp.l = x.l ∧ xp.r = x.r ∧ xp.mn = x.mn.xs ∧ xp.mx = x.mx.xs := by rw [← hxpl]; exact ⟨rfl, rfl, rfl, rfl⟩
          rw [x3.2.2.1, x3.2.2.2] at e3
          rw [x3.1] at e4
          rw [x3.2.1] at e5
          have hdd : d < dims := hE.1
          have hxs := hP xs (by simp [IT.T, KB.T.all])
          have HX := Lib.hid (And.intro hPS (And.intro hx (And.intro x1 (And.intro x2 (And.intro e3 (And.intro e4 (And.intro e5 (And.intro hxpl (And.intro hxp hxs)))))))))
          have HC := Lib.hid (And.intro hC (And.intro hND (And.intro hE (And.intro hP hRep))))
          clear hPS hRep hND hC hE hP hxp e1 e2 e3 e4 e5 hx hxpl x1 x2 x3 hxs
          have i0' : (0 : Int) ≤ k := by omega
          have i1' : (k : Int) < n := by omega
          go_upto_if 42 with fail
          go_cut [] from 43 to 62 (fun wx => Hid (∃ y : KR, PS w wx dims n g cap ob q b pl (rs1.set k y) ∧ y.p = x.p ∧ y.pl = x.pl ∧ y.l = x.l ∧ y.r = x.r ∧ BxOk dims b (q.xs :: (IT.node k xs d l r).T.all) y.mn.xs y.mx.xs))
          case first =>
            cases b with
            | false =>
              go_wp2_with fail
              go_meet
              exact ⟨x, by rw [set_same HX.out.2.1]; exact HX.out.1, rfl, rfl, rfl, rfl, HX.out.2.2.2.2.1⟩
            | true =>
              obtain ⟨F, hF, hbo⟩ := lb3_box (p := q.xs) (by have h := HX.out.2.2.2.2.1; exact h) HH.out.2.2.1.1 (TP.gr_iff.1 HH.out.2.2.2.1) (by simp [IT.T, KB.T.all])
              have hB : BoxOf dims (IT.node k xs d l r).T.all x.mn.xs x.mx.xs := HX.out.2.2.2.2.1
              have hown := HX.out.1.own HX.out.2.1
              have ne : ∀ p : TP, p.Own0 0 wr dims (.slice (some ⟨g, 0, none⟩) n cap) → p.xs.length = dims → p.Ok wr dims := fun p hp hl => by
                rcases hp with rfl | hp
                · exact absurd hl (by simp; omega)
                · exact hp.1
              have o1 := ne _ hown.2.1 hB.lmn
              have o2 := ne _ hown.2.2 hB.lmx
              have c4 := (HX.out.1.cell HX.out.2.1 4 (by omega)).1
              have c5 := (HX.out.1.cell HX.out.2.1 5 (by omega)).1
              replace c4 : wr.cell? ⟨g, k * 6 + 4, none⟩ = some (.slice x.mn.A dims x.mn.c) := by rw [c4]; show some x.mn.v = _; rw [← hB.lmn]; rfl
              replace c5 : wr.cell? ⟨g, k * 6 + 5, none⟩ = some (.slice x.mx.A dims x.mx.c) := by rw [c5]; show some x.mx.v = _; rw [← hB.lmx]; rfl
              have hgl2 : g < wr.heap.size := lt_of_cell c4
              have LBC : Hid (∀ (W : World) (blk : Nat), Mod (fun _ => False) wr W → Blk W blk 26 [.slice x.mn.A dims x.mn.c, .slice x.mx.A dims x.mx.c, .slice q.A dims q.c] → Calls Try.prog 37 #[.slice (some ⟨blk, 0, none⟩) 3 3] W (LbTold dims F W)) := by
                intro W blk hm hb
                refine leastBox_at (some ⟨blk, 0, none⟩) 3 3 dims [x.mn, x.mx, q] W ⟨rfl, fun _ => ⟨blk, 0, rfl, fun j u hu => ?_⟩⟩ (by omega) (by omega) (fun p hp => ?_) hd F hF
                · rw [Nat.zero_add]
                  refine hb.at ?_
                  rw [← hu]
                  simp only [List.map_cons, List.map_nil, TP.v, hB.lmn, hB.lmx, HH.out.2.2.1.1]
                · rcases List.mem_cons.1 hp with rfl | hp
                  · exact ⟨o1.mod0 hm, TP.gr_of hB.wmn⟩
                  · rcases List.mem_cons.1 hp with rfl | hp
                    · exact ⟨o2.mod0 hm, TP.gr_of hB.wmx⟩
                    · rw [List.mem_singleton.1 hp]
                      exact ⟨HX.out.1.qok.mod0 hm, HH.out.2.2.2.1⟩
              have HBO := Lib.hid hbo
              clear hF hbo hB hown ne o1 o2
              go_wp2_with fail
              go_region_law
                (first | (go_simp; go_at_call 37; refine (LBC.out _ _ (by repeat' (first | with_reducible exact Mod.refl _ _ | with_reducible refine Mod.drew ?_ | with_reducible refine Mod.drewN ?_ _ | with_reducible refine Mod.alloc ?_ _)) (by first | exact Blk.new' wr #[.slice x.mn.A dims x.mn.c, .slice x.mx.A dims x.mx.c, .slice q.A dims q.c] 26 | exact (Blk.new' wr #[.slice x.mn.A dims x.mn.c, .slice x.mx.A dims x.mx.c, .slice q.A dims q.c] 26).drew | exact (Blk.new' (wr.drewN _) #[.slice x.mn.A dims x.mn.c, .slice x.mx.A dims x.mx.c, .slice q.A dims q.c] 26))).mono ?_; rintro _ w2 ⟨b1, b2, d1, d2, rfl, hcor, wm1, wm2, hm2⟩; have hma : Mod (fun _ => False) wr w2 := Mod.trans (by repeat' (first | with_reducible exact Mod.refl _ _ | with_reducible refine Mod.drew ?_ | with_reducible refine Mod.drewN ?_ _ | with_reducible refine Mod.alloc ?_ _)) hm2; have hps2 := HX.out.1.mod0 hma; have y4 := (hma.cell hgl2 (fun h => h)).trans c4; have y5 := (hma.cell hgl2 (fun h => h)).trans c5; have z4 := (hps2.cell HX.out.2.1 4 (by omega)).2; have z5 := (hps2.cell HX.out.2.1 5 (by omega)).2; have hcor2 := cor_low (wr := wr) (by repeat' (first | with_reducible exact Mod.refl _ _ | with_reducible refine Mod.drew ?_ | with_reducible refine Mod.drewN ?_ _ | with_reducible refine Mod.alloc ?_ _)) hgl2 hcor; have HCO := Lib.hid (And.intro hcor2 (And.intro hps2 hma)); clear hcor hcor2 wm1 wm2 hm2 hma hps2))
              all_goals
                go_wp2_with fail
                go_meet
                exact put_grown hd.1 HCO.out.2.1 HX.out.2.1 HCO.out.1 (Nat.lt_succ_self g) HBO.out
          case rest =>
            obtain ⟨y, hps, p1, p2, p3, p4, hby⟩ := hcut
            have hkl : k < rs1.length := by rw [HX.out.1.len]; exact hkn
            have hy : (rs1.set k y)[k]? = some y := List.getElem?_set_self hkl
            have c1 : wc.cell? ⟨g, k * 6 + 1, none⟩ = some (.int .i64 d) := by rw [(hps.cell hy 1 (by omega)).1]; show some (Value.int .i64 y.pl) = _; rw [p2, HX.out.2.2.2.1]
            have q1 := hps.one.at (i := 1) rfl
            have qz := hps.one.frozen 1
            obtain ⟨pl', epl⟩ : ∃ pl', pl' = (d + 1) % dims := ⟨_, rfl⟩
            have HPS := Lib.hid (hps.plane pl')
            have HY := Lib.hid (And.intro hy (And.intro p1 (And.intro p2 (And.intro p3 (And.intro p4 (And.intro hby (And.intro epl hkl)))))))
            have hnp : ((d : Int) + 1) % (dims : Int) = ((pl' : Nat) : Int) := by rw [epl]; simp
            have d0 : (d : Int) < dims := by omega
            have d1 : (0 : Int) < dims := by omega
            have d2 : ((dims : Int) == 0) = false := by
              have : (dims : Int) ≠ 0 := by omega
              simpa using this
            have d3 : IntKind.i64.wrap ((d : Int) + 1) = (d : Int) + 1 := IntWalk.i64_in _ (by omega)
            clear hps p1 p2 p3 p4 hby hy hkl epl
            go_upto_region 13 with fail
            have HQW : Hid (∀ v ∈ q.xs, ∃ n, Wh v n) := TP.gr_iff.1 HH.out.2.2.2.1
            obtain ⟨bq, oq, X, eA, cq, eX, wX⟩ := ok_num HPS.out.qok HQW.out hdd
            obtain ⟨bp, op, Y, eP, cp, eY, wY⟩ := ok_num (p := y.p) (HPS.out.own HY.out.1).1.1 (by rw [HY.out.2.1, HX.out.2.2.1]; exact HX.out.2.2.2.2.2.2.2.2.2.2) hdd
            have hlook : (FloatKind.f64.format.order X Y == some .lt || FloatKind.f64.format.order X Y == some .eq) = leX d q.xs xs := leX_look (p := q.xs) (q := xs) eX (by rw [eY, HY.out.2.1, HX.out.2.2.1]) wX wY
            have c0 := (HPS.out.cell HY.out.1 0 (by omega)).1
            have c1' := (HPS.out.cell HY.out.1 1 (by omega)).1
            have c2 := (HPS.out.cell HY.out.1 2 (by omega)).1
            have c3 := (HPS.out.cell HY.out.1 3 (by omega)).1
            have z2 := (HPS.out.cell HY.out.1 2 (by omega)).2
            have z3 := (HPS.out.cell HY.out.1 3 (by omega)).2
            have hyl : y.p.xs.length = dims := ((HPS.out.own HY.out.1).1.1).1
            replace c0 : (wc.setCell ⟨ob, 1, none⟩ (Value.int .i64 (pl' : Int))).cell? ⟨g, k * 6, none⟩ = some (.slice (some ⟨bp, op, none⟩) dims y.p.c) := by rw [Nat.add_zero] at c0; rw [c0]; show some (Value.slice y.p.A y.p.xs.length y.p.c) = _; rw [hyl, eP]
            replace c1' : (wc.setCell ⟨ob, 1, none⟩ (Value.int .i64 (pl' : Int))).cell? ⟨g, k * 6 + 1, none⟩ = some (.int .i64 d) := by rw [c1']; show some (Value.int .i64 y.pl) = _; rw [HY.out.2.2.1, HX.out.2.2.2.1]
            replace c2 : (wc.setCell ⟨ob, 1, none⟩ (Value.int .i64 (pl' : Int))).cell? ⟨g, k * 6 + 2, none⟩ = some (.int .i64 x.l) := by rw [c2]; show some (Value.int .i64 y.l) = _; rw [HY.out.2.2.2.1]
            replace c3 : (wc.setCell ⟨ob, 1, none⟩ (Value.int .i64 (pl' : Int))).cell? ⟨g, k * 6 + 3, none⟩ = some (.int .i64 x.r) := by rw [c3]; show some (Value.int .i64 y.r) = _; rw [HY.out.2.2.2.2.1]
            clear c1 q1 qz hnp hyl
            generalize wc.setCell ⟨ob, 1, none⟩ (Value.int .i64 (pl' : Int)) = wv at HPS c0 c1' c2 c3 z2 z3 cq cp ⊢
            have HA := Lib.hid (And.intro eX (And.intro wX (And.intro eY wY)))
            clear eX wX eY wY
            have j0 : (0 : Int) ≤ d := by omega
            cases hle : leX d q.xs xs with
            | true =>
              rw [hle] at hlook
              clear c3 z3
              cases l with
              | nil =>
                have exl : x.l = -1 := HX.out.2.2.2.2.2.1
                rw [exl] at c2
                clear exl
                go_quiet (fail)
                go_wp2_with fail
                go_meet
                exact put_left (HPS.out.drewN _) HX.out.2.1 hkn HC.out.1 HC.out.2.1 HX.out.2.2.2.2.2.2.1 HX.out.2.2.1 HX.out.2.2.2.1 HY.out.2.1 HY.out.2.2.1 HY.out.2.2.2.2.1 HY.out.2.2.2.2.2.1 HY.out.2.2.2.2.2.2.1 hle HH.out.2.2.1.1 HQW.out
              | node k' xs' d' l' r' =>
                have exl : x.l = (k' : Int) := HX.out.2.2.2.2.2.1.1
                have hk' : k' < n := by
                  have := HX.out.2.2.2.2.2.1.lt k' (by simp [IT.ids])
                  rw [List.length_map, HX.out.1.len] at this
                  exact this
                rw [exl] at c2
                clear exl
                have hne : ((k' : Int) == -1) = false := by simp
                go_quiet (fail)
                go_wp2_with fail
                go_roundg (IT.node k' xs' d' l' r').ids.length
                case measure => simp only [IT.ids, List.length_cons, List.length_append] at hgk ⊢; omega
                case rel => exact ⟨k', xs', d', l', r', rs1.set k y, pl', rfl, Nat.le_refl _, hk', put_downl (HPS.out.drewN _) HX.out.2.1 hkn ⟨HC.out.1, HC.out.2.1, HC.out.2.2.1, HC.out.2.2.2.1⟩ HX.out.2.2.2.2.2.1 HX.out.2.2.2.2.2.2.1 HX.out.2.2.1 HX.out.2.2.2.1 HY.out.2.1 HY.out.2.2.1 HY.out.2.2.2.1 HY.out.2.2.2.2.1 HY.out.2.2.2.2.2.1 hle⟩
            | false =>
              rw [hle] at hlook
              clear c2 z2
              cases r with
              | nil =>
                have exl : x.r = -1 := HX.out.2.2.2.2.2.2.1
                rw [exl] at c3
                clear exl
                go_quiet (fail)
                go_wp2_with fail
                go_meet
                exact put_right (HPS.out.drewN _) HX.out.2.1 hkn HC.out.1 HC.out.2.1 HX.out.2.2.2.2.2.1 HX.out.2.2.1 HX.out.2.2.2.1 HY.out.2.1 HY.out.2.2.1 HY.out.2.2.2.1 HY.out.2.2.2.2.2.1 HY.out.2.2.2.2.2.2.1 hle HH.out.2.2.1.1 HQW.out
              | node k' xs' d' l' r' =>
                have exl : x.r = (k' : Int) := HX.out.2.2.2.2.2.2.1.1
                have hk' : k' < n := by
                  have := HX.out.2.2.2.2.2.2.1.lt k' (by simp [IT.ids])
                  rw [List.length_map, HX.out.1.len] at this
                  exact this
                rw [exl] at c3
                clear exl
                have hne : ((k' : Int) == -1) = false := by simp
                go_quiet (fail)
                go_wp2_with fail
                go_roundg (IT.node k' xs' d' l' r').ids.length
                case measure => simp only [IT.ids, List.length_cons, List.length_append] at hgk ⊢; omega
                case rel => exact ⟨k', xs', d', l', r', rs1.set k y, pl', rfl, Nat.le_refl _, hk', put_downr (HPS.out.drewN _) HX.out.2.1 hkn ⟨HC.out.1, HC.out.2.1, HC.out.2.2.1, HC.out.2.2.2.1⟩ HX.out.2.2.2.2.2.1 HX.out.2.2.2.2.2.2.1 HX.out.2.2.1 HX.out.2.2.2.1 HY.out.2.1 HY.out.2.2.1 HY.out.2.2.2.1 HY.out.2.2.2.2.1 HY.out.2.2.2.2.2.1 hle⟩
      case rest =>
        obtain ⟨rs2, pl, hps, T', t1, t2, t3⟩ := hcut
        have k0 := hps.one.at (i := 0) rfl
        have k1 := hps.one.at (i := 1) rfl
        have k2 := hps.one.at (i := 2) rfl
        have k3 := hps.one.at (i := 3) rfl
        have k4 := hps.one.at (i := 4) rfl
        have k5 := hps.one.at (i := 5) rfl
        have HT := Lib.hid (And.intro hps (And.intro t1 (And.intro t2 t3)))
        have hown : wc.ownsRow w.heap.size 39 6 (.slice (some ⟨g, 0, none⟩) n cap) n (rs2.flatMap KR.cells) := put_own hps
        have HOW := Lib.hid hown
        clear hps t1 t2 t3 hown
        generalize hqb : qb b q dims = Q at k4 k5
        have HQB := Lib.hid hqb
        have hqo : Q.oneCell' = true := by rw [← hqb]; unfold qb; cases b <;> rfl
        have HQO := Lib.hid hqo
        clear hqb hqo
        go_wp2_with (at_builtin; refine wpList_append_lies _ (by rfl) (.tmp 107) (.tmp 109) 28 (by rfl) w.heap.size 39 i0 _ 6 96 Try.underlying28 HI.out.1 HI.out.2.1 HI.out.2.2.1 HI.out.2.2.2 rfl (by omega) (.slice (some ⟨g, 0, none⟩) n cap) n (rs2.flatMap KR.cells) (by rfl) (HOW.out.alloc _) ⟨wc.heap.size, 0, none⟩ 1 1 [.slice q.A dims q.c, .int .i64 pl, .int .i64 (-1), .int .i64 (-1), Q, Q] (by rfl) (by rfl) (World.news_of_block (cs := #[.slice q.A dims q.c, .int .i64 pl, .int .i64 (-1), .int .i64 (-1), Q, Q]) (t := 39) (fr := (0, 0)) (heap_alloc_new wc _)) (by have := HQO.out; simp [Value.oneCell'] at this ⊢; exact this) (by omega) (by unfold maxLen; omega) (by omega) (by have := HT.out.1.mod.size; simp; omega) (wc.heap.size + 1) (by simp) ?_; intro gg cap3 w3 hown hgrow hat hlt3; have HF := Lib.hid (And.intro hown (And.intro hgrow hat)); clear hown hgrow hat)
        go_ret
        exact put_end hd.1 HH.out.2.1 HT.out.1 HT.out.2.1 HT.out.2.2.1 HT.out.2.2.2 (by rw [HQB.out]; exact HF.out.1) HF.out.2.1 HF.out.2.2
end Go.Proofs.Ytmeooadgdagiiaa.W
